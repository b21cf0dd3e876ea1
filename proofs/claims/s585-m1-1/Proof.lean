import JvmDerived
import JvmDerived.Pilot.@@N@@Statement
import JvmDerived.Pilot.@@N@@Code
set_option linter.unusedVariables false
set_option linter.unusedSimpArgs false
/- laws to paste: Road.backV, Road.eqW, Road.codOf (cut by pick.py; bodies as the Statement names them) -/
namespace Jvm.Pilot.@@N@@
namespace StrChars
open Jvm Sem ClassFile Op Lib Jvm.Stand Jvm.Free.XT Jvm.Free.ALB Jvm.Free.JM Jvm.Free
open Jvm.Lib.Cold (StaticIs)
/-- a char array whose places are chars -/
def Ch (a : Addr) (A : Cell) (U : State) : Prop := Arr .char a A U ∧ Typed .char A
theorem Ch.mv {a : Addr} {A : Cell} {U U' : State} (h : Ch a A U) (hal : U.vm.Alike U'.vm) (hh : U'.heap = U.heap) : Ch a A U' := ⟨h.1.mv hal hh, h.2⟩
theorem Ch.keep {a : Addr} {A : Cell} {U U' : State} (h : Ch a A U) (hal : U.vm.Alike U'.vm) (hk : U'.heap[a]? = some A) : Ch a A U' := ⟨h.1.keep hal hk, h.2⟩
/-- what place i of a char[]'s cell holds -/
def cv (A : Cell) (i : Nat) : Int32 := match A.slots[i]? with | some (.int x) => x | _ => 0
theorem Ch.get {a : Addr} {A : Cell} {U : State} (h : Ch a A U) {i : Nat} (hi : i < A.slots.size) : A.slots[i]? = some (.int (cv A i)) := by
  have e := Array.getElem?_eq_getElem hi
  have f := h.2 i _ e
  unfold cv; rw [e]
  generalize A.slots[i] = v at f
  cases v <;> simp [fits] at f ⊢
/-- the byte that i2b leaves of a char -/
def lo8 (x : Int32) : Int32 := x.toInt8.toInt32
theorem fits_lo8 (y : Int32) : fits .byte (.int (lo8 y)) = true := by
  have h1 := y.toInt8.le_toInt
  have h2 := y.toInt8.toInt_lt
  simp only [lo8, fits, Bool.and_eq_true, decide_eq_true_eq, Int32.le_iff_toInt_le, Int8.toInt_toInt32, show (-128 : Int32).toInt = -128 from by decide, show (127 : Int32).toInt = 127 from by decide]
  omega
/-- A' is A but that each place j of lo .. hi - 1 holds f j -/
def Laid (A A' : Cell) (lo hi : Nat) (f : Nat → Value) : Prop := A'.cls = A.cls ∧ A'.vm = A.vm ∧ A'.slots.size = A.slots.size ∧ ∀ i, A'.slots[i]? = if lo ≤ i ∧ i < hi then some (f i) else A.slots[i]?
theorem Laid.zero (A : Cell) (lo : Nat) (f : Nat → Value) : Laid A A lo (lo + 0) f := ⟨rfl, rfl, rfl, fun i => by rw [if_neg (by omega)]⟩
theorem Laid.step {A Ak : Cell} {lo k : Nat} {f : Nat → Value} {v : Value} (h : Laid A Ak lo k f) (hlo : lo ≤ k) (hk : k < Ak.slots.size) (hv : v = f k) : Laid A (Ak.setSlot k v) lo (k + 1) f := by
  refine ⟨h.1, h.2.1, by simpa [Cell.setSlot] using h.2.2.1, fun i => ?_⟩
  by_cases e : k = i
  · subst e; rw [Cell.slots_setSlot_self v hk, if_pos (by omega), hv]
  · rw [Cell.slots_setSlot_ne v e, h.2.2.2 i]
    by_cases q : lo ≤ i ∧ i < k
    · rw [if_pos q, if_pos (by omega)]
    · rw [if_neg q, if_neg (by omega)]
def U16 : String := "java/lang/StringUTF16"
namespace Cmp5
def yN : MethodName := ⟨"java/lang/StringUTF16", "compress", "([CI[BII)I"⟩
abbrev yB : ByteArray := jdk_52_method_21_code
theorem d0 : decode yB 0 = .ok (.iconst 0, 1) := by decide +kernel
theorem d1 : decode yB 1 = .ok (.istore 5, 2) := by decide +kernel
theorem d3 : decode yB 3 = .ok (.iload 5, 2) := by decide +kernel
theorem d5 : decode yB 5 = .ok (.iload 4, 2) := by decide +kernel
theorem d7 : decode yB 7 = .ok (.if_icmp (.ge) 37, 3) := by decide +kernel
theorem d10 : decode yB 10 = .ok (.aload_n 0, 1) := by decide +kernel
theorem d11 : decode yB 11 = .ok (.iload_n 1, 1) := by decide +kernel
theorem d12 : decode yB 12 = .ok (.caload, 1) := by decide +kernel
theorem d13 : decode yB 13 = .ok (.istore 6, 2) := by decide +kernel
theorem d15 : decode yB 15 = .ok (.iload 6, 2) := by decide +kernel
theorem d17 : decode yB 17 = .ok (.sipush 255, 3) := by decide +kernel
theorem d20 : decode yB 20 = .ok (.if_icmp (.le) 6, 3) := by decide +kernel
theorem d26 : decode yB 26 = .ok (.aload_n 2, 1) := by decide +kernel
theorem d27 : decode yB 27 = .ok (.iload_n 3, 1) := by decide +kernel
theorem d28 : decode yB 28 = .ok (.iload 6, 2) := by decide +kernel
theorem d30 : decode yB 30 = .ok (.i2b, 1) := by decide +kernel
theorem d31 : decode yB 31 = .ok (.bastore, 1) := by decide +kernel
theorem d32 : decode yB 32 = .ok (.iinc 1 1, 3) := by decide +kernel
theorem d35 : decode yB 35 = .ok (.iinc 3 1, 3) := by decide +kernel
theorem d38 : decode yB 38 = .ok (.iinc 5 1, 3) := by decide +kernel
theorem d41 : decode yB 41 = .ok (.goto (-38), 3) := by decide +kernel
theorem d44 : decode yB 44 = .ok (.iload 4, 2) := by decide +kernel
theorem d46 : decode yB 46 = .ok (.ireturn, 1) := by decide +kernel
def site : List Cond := []
def tab : Cond := tabOf yN yB 7 (some .int) site
def P (b : Addr) (A : Cell) (d : Addr) (B : Cell) (o q len : Nat) (args : Array Value) (s : State) : Prop := args = #[.ref b, .int (Int32.ofNat o), .ref d, .int (Int32.ofNat q), .int (Int32.ofNat len)] ∧ Ch b A s ∧ Arr .byte d B s ∧ b ≠ d ∧ o + len ≤ A.slots.size ∧ q + len ≤ B.slots.size ∧ ∀ i, i < len → ¬ 255 < cv A (o + i)
def E (b : Addr) (A : Cell) (d : Addr) (B : Cell) (o q len : Nat) (r : Option Value) (s u : State) : Prop := r = some (.int (Int32.ofNat len)) ∧ ∃ B', Put d B' s u ∧ Laid B B' q (q + len) (fun j => Value.int (lo8 (cv A (o + (j - q)))))
/-- no char of the range above 255: len; the places written hold each char's low byte -/
theorem law (l : Launch) (b : Addr) (A : Cell) (d : Addr) (B : Cell) (o q len : Nat) : Law l yN 5 5 0 0 yB 7 (some .int) site (P b A d B o q len) (E b A d B o q len) (copyLocs d q len) 0 0 := by
  refine Law.of_walk (plainFor_of_name (by decide +kernel)) (by decide +kernel) (by decide +kernel) (by decide) (fun _ _ h => by rw [h.1]; rfl) (fun _ U U' hal hh h => ⟨h.1, h.2.1.mv hal hh, h.2.2.1.mv hal hh, h.2.2.2⟩) (fun r U U' V V' h1 hal h2 h => ⟨h.1, h.2.elim fun B' q => ⟨B', q.1.mv h1 h2, q.2⟩⟩) ?_
  intro p e s m args below meth c s₁ X0 hexec hbytes hml hret hlk hnm hown hh0 W hP
  obtain ⟨rfl, hA, hB, hne, l1, l2, hp⟩ := hP
  have c1 : Steps p.tables e below (s₁.setTop (entryFrame m #[.ref b, .int (Int32.ofNat o), .ref d, .int (Int32.ofNat q), .int (Int32.ofNat len)] 7)) (s₁.setTop (mkF m 0 #[.val (.ref b), .val (.int (Int32.ofNat o)), .val (.ref d), .val (.int (Int32.ofNat q)), .val (.int (Int32.ofNat len)), .unset, .unset] [])) := entry rfl
  have hA0 := hA.1.mv X0.warmed.alike hh0
  have hB0 := hB.mv X0.warmed.alike hh0
  have a31 := hA.1.2.2.2
  have c2 : Steps p.tables e below (s₁.setTop (entryFrame m #[.ref b, .int (Int32.ofNat o), .ref d, .int (Int32.ofNat q), .int (Int32.ofNat len)] 7)) (s₁.setTop (mkF m 3 #[.val (.ref b), .val (.int (Int32.ofNat o)), .val (.ref d), .val (.int (Int32.ofNat q)), .val (.int (Int32.ofNat len)), .val (.int 0), .unset] [])) := c1.trans (by
    refine iconstV X0.here hexec rfl 0 (hb hbytes d0) (by decide) ?_
    refine XS.istore X0.here hexec rfl (hb hbytes d1) rfl rfl ?_
    exact Steps.refl _)
  have loop : ∀ (r i : Nat), i + r = len → ∀ (z : Slot), (z = .unset ∨ ∃ w, z = .val w ∧ w.category = 1) → ∀ (Tl : State) (Bk : Cell), Stand p l e { frames := 0, locals := 0, cells := 0, slots := 0 } s m #[.ref b, .int (Int32.ofNat o), .ref d, .int (Int32.ofNat q), .int (Int32.ofNat len)] below meth c Tl ([] ++ copyLocs d q i) 0 0 → Put d Bk s₁ Tl → Laid B Bk q (q + i) (fun j => Value.int (lo8 (cv A (o + (j - q))))) →
      Steps p.tables e below (s₁.setTop (entryFrame m #[.ref b, .int (Int32.ofNat o), .ref d, .int (Int32.ofNat q), .int (Int32.ofNat len)] 7)) (Tl.setTop (mkF m 3 #[.val (.ref b), .val (.int (Int32.ofNat (o + i))), .val (.ref d), .val (.int (Int32.ofNat (q + i))), .val (.int (Int32.ofNat len)), .val (.int (Int32.ofNat i)), z] [])) → ∃ (T' : State) (B' : Cell) (z' : Slot), Stand p l e { frames := 0, locals := 0, cells := 0, slots := 0 } s m #[.ref b, .int (Int32.ofNat o), .ref d, .int (Int32.ofNat q), .int (Int32.ofNat len)] below meth c T' ([] ++ copyLocs d q len) 0 0 ∧ Put d B' s₁ T' ∧ Laid B B' q (q + len) (fun j => Value.int (lo8 (cv A (o + (j - q))))) ∧
      Steps p.tables e below (s₁.setTop (entryFrame m #[.ref b, .int (Int32.ofNat o), .ref d, .int (Int32.ofNat q), .int (Int32.ofNat len)] 7)) (T'.setTop (mkF m 3 #[.val (.ref b), .val (.int (Int32.ofNat (o + len))), .val (.ref d), .val (.int (Int32.ofNat (q + len))), .val (.int (Int32.ofNat len)), .val (.int (Int32.ofNat len)), z'] [])) := by
    intro r
    induction r with
    | zero =>
      intro i hi z hz Tl Bk Xl pl fl cl
      have hil : i = len := by omega
      rw [hil] at Xl fl cl
      exact ⟨Tl, Bk, z, Xl, pl, fl, cl⟩
    | succ r ih =>
      intro i hi z hz Tl Bk Xl pl fl cl
      have all := X0.warmed.alike.symm.trans Xl.warmed.alike
      have hAl := hA0.keep all (pl.other hne hA0.1)
      have hBk := hB0.like all pl.1 fl.1 fl.2.1 fl.2.2.1
      have hlt : q + i < Bk.slots.size := by rw [fl.2.2.1]; omega
      have c3 : Steps p.tables e below (s₁.setTop (entryFrame m #[.ref b, .int (Int32.ofNat o), .ref d, .int (Int32.ofNat q), .int (Int32.ofNat len)] 7)) (Tl.setTop (mkF m 12 #[.val (.ref b), .val (.int (Int32.ofNat (o + i))), .val (.ref d), .val (.int (Int32.ofNat (q + i))), .val (.int (Int32.ofNat len)), .val (.int (Int32.ofNat i)), z] [.int (Int32.ofNat (o + i)), .ref b])) := cl.trans (by
        refine XS.iload Xl.here hexec rfl (hb hbytes d3) rfl ?_
        refine XS.iload Xl.here hexec rfl (hb hbytes d5) rfl ?_
        refine XS.icmpNo Xl.here hexec rfl (hb hbytes d7) rfl (ii_ge_f (lt32 (by omega) (by omega))) ?_
        refine XS.aloadN Xl.here hexec rfl (hb hbytes d10) rfl rfl ?_
        refine XS.iloadN Xl.here hexec rfl (hb hbytes d11) rfl ?_
        exact Steps.refl _)
      have c4 : Steps p.tables e below (s₁.setTop (entryFrame m #[.ref b, .int (Int32.ofNat o), .ref d, .int (Int32.ofNat q), .int (Int32.ofNat len)] 7)) (Tl.setTop (mkF m 13 #[.val (.ref b), .val (.int (Int32.ofNat (o + i))), .val (.ref d), .val (.int (Int32.ofNat (q + i))), .val (.int (Int32.ofNat len)), .val (.int (Int32.ofNat i)), z] [.int (cv A (o + i))])) := c3.trans (by
        refine Xl.aget hexec hAl rfl (hA.get (i := o + i) (by omega)) rfl rfl (hb hbytes d12) ?_
        exact Steps.refl _)
      have c5 : Steps p.tables e below (s₁.setTop (entryFrame m #[.ref b, .int (Int32.ofNat o), .ref d, .int (Int32.ofNat q), .int (Int32.ofNat len)] 7)) (Tl.setTop (mkF m 15 #[.val (.ref b), .val (.int (Int32.ofNat (o + i))), .val (.ref d), .val (.int (Int32.ofNat (q + i))), .val (.int (Int32.ofNat len)), .val (.int (Int32.ofNat i)), .val (.int (cv A (o + i)))] [])) := c4.trans (by
        refine XS.istoreS Xl.here hexec rfl (hb hbytes d13) rfl rfl hz ?_
        exact Steps.refl _)
      have c6 : Steps p.tables e below (s₁.setTop (entryFrame m #[.ref b, .int (Int32.ofNat o), .ref d, .int (Int32.ofNat q), .int (Int32.ofNat len)] 7)) (Tl.setTop (mkF m 31 #[.val (.ref b), .val (.int (Int32.ofNat (o + i))), .val (.ref d), .val (.int (Int32.ofNat (q + i))), .val (.int (Int32.ofNat len)), .val (.int (Int32.ofNat i)), .val (.int (cv A (o + i)))] [.int (lo8 (cv A (o + i))), .int (Int32.ofNat (q + i)), .ref d])) := c5.trans (by
        refine XS.iload Xl.here hexec rfl (hb hbytes d15) rfl ?_
        refine sipushV Xl.here hexec rfl 255 (hb hbytes d17) (by decide) ?_
        refine XS.icmpYes Xl.here hexec rfl (pc0 := 20) rfl (hb hbytes d20) rfl (ii_le_t (hp i (by omega))) (by decide) rfl ?_
        refine XS.aloadN Xl.here hexec rfl (hb hbytes d26) rfl rfl ?_
        refine XS.iloadN Xl.here hexec rfl (hb hbytes d27) rfl ?_
        refine XS.iload Xl.here hexec rfl (hb hbytes d28) rfl ?_
        refine i2b Xl.here hexec rfl (hb hbytes d30) rfl ?_
        exact Steps.refl _)
      obtain ⟨T7, X7, p7, st7⟩ := Xl.aput hexec hBk rfl hlt rfl (fits_lo8 (cv A (o + i))) (g := (mkF m 31 #[.val (.ref b), .val (.int (Int32.ofNat (o + i))), .val (.ref d), .val (.int (Int32.ofNat (q + i))), .val (.int (Int32.ofNat len)), .val (.int (Int32.ofNat i)), .val (.int (cv A (o + i)))] [.int (lo8 (cv A (o + i))), .int (Int32.ofNat (q + i)), .ref d])) rfl (rest := []) rfl (hb hbytes d31)
      have c8 : Steps p.tables e below (s₁.setTop (entryFrame m #[.ref b, .int (Int32.ofNat o), .ref d, .int (Int32.ofNat q), .int (Int32.ofNat len)] 7)) (T7.setTop (mkF m 32 #[.val (.ref b), .val (.int (Int32.ofNat (o + i))), .val (.ref d), .val (.int (Int32.ofNat (q + i))), .val (.int (Int32.ofNat len)), .val (.int (Int32.ofNat i)), .val (.int (cv A (o + i)))] [])) := c6.trans (st7 _ (Steps.refl _))
      have c9 : Steps p.tables e below (s₁.setTop (entryFrame m #[.ref b, .int (Int32.ofNat o), .ref d, .int (Int32.ofNat q), .int (Int32.ofNat len)] 7)) (T7.setTop (mkF m 3 #[.val (.ref b), .val (.int (Int32.ofNat (o + i) + 1)), .val (.ref d), .val (.int (Int32.ofNat (q + i) + 1)), .val (.int (Int32.ofNat len)), .val (.int (Int32.ofNat i + 1)), .val (.int (cv A (o + i)))] [])) := c8.trans (by
        refine iincV X7.here hexec rfl 1 (hb hbytes d32) (by decide) rfl rfl ?_
        refine iincV X7.here hexec rfl 1 (hb hbytes d35) (by decide) rfl rfl ?_
        refine iincV X7.here hexec rfl 1 (hb hbytes d38) (by decide) rfl rfl ?_
        refine XS.goto X7.here hexec rfl (pc0 := 41) rfl (hb hbytes d41) (by decide) rfl ?_
        exact Steps.refl _)
      have c10 : Steps p.tables e below (s₁.setTop (entryFrame m #[.ref b, .int (Int32.ofNat o), .ref d, .int (Int32.ofNat q), .int (Int32.ofNat len)] 7)) (T7.setTop (mkF m 3 #[.val (.ref b), .val (.int (Int32.ofNat (o + (i + 1)))), .val (.ref d), .val (.int (Int32.ofNat (q + (i + 1)))), .val (.int (Int32.ofNat len)), .val (.int (Int32.ofNat (i + 1))), .val (.int (cv A (o + i)))] [])) := by
        have := c9
        rw [succ32, succ32, succ32] at this
        exact this
      exact ih (i + 1) (by omega) _ (Or.inr ⟨_, rfl, rfl⟩) T7 _ (by rw [copyLocs_step, ← List.append_assoc]; exact X7) (pl.trans p7) (fl.step (by omega) hlt (by simp)) c10
  obtain ⟨T9, B9, z9, X9, p9, f9, g9⟩ := loop len 0 (by omega) .unset (Or.inl rfl) s₁ B (by simpa [copyLocs] using X0) ⟨hB0.1, fun _ _ => rfl, rfl⟩ (Laid.zero _ _ _) c2
  have c11 : Steps p.tables e below (s₁.setTop (entryFrame m #[.ref b, .int (Int32.ofNat o), .ref d, .int (Int32.ofNat q), .int (Int32.ofNat len)] 7)) (T9.setTop (mkF m 46 #[.val (.ref b), .val (.int (Int32.ofNat (o + len))), .val (.ref d), .val (.int (Int32.ofNat (q + len))), .val (.int (Int32.ofNat len)), .val (.int (Int32.ofNat len)), z9] [.int (Int32.ofNat len)])) := g9.trans (by
    refine XS.iload X9.here hexec rfl (hb hbytes d3) rfl ?_
    refine XS.iload X9.here hexec rfl (hb hbytes d5) rfl ?_
    refine XS.icmpYes X9.here hexec rfl (pc0 := 7) rfl (hb hbytes d7) rfl (ii_ge_t (nlt32 (by omega) (Nat.le_refl _))) (by decide) rfl ?_
    refine XS.iload X9.here hexec rfl (hb hbytes d44) rfl ?_
    exact Steps.refl _)
  exact ⟨T9, some (.int (Int32.ofNat len)), _, _, _, X9, by simp, rfl, rfl, (fun h => by cases h), ⟨rfl, B9, p9.from hh0, f9⟩, fun fs hl => c11.trans (X9.ireturnOut hexec hret rfl (Or.inl rfl) (hb hbytes d46) hl)⟩
end Cmp5
namespace Cmp3
def yN : MethodName := ⟨"java/lang/StringUTF16", "compress", "([CII)[B"⟩
abbrev yB : ByteArray := jdk_52_method_16_code
theorem d0 : decode yB 0 = .ok (.iload_n 2, 1) := by decide +kernel
theorem d1 : decode yB 1 = .ok (.newarray .byte, 2) := by decide +kernel
theorem d3 : decode yB 3 = .ok (.astore_n 3, 1) := by decide +kernel
theorem d4 : decode yB 4 = .ok (.aload_n 0, 1) := by decide +kernel
theorem d5 : decode yB 5 = .ok (.iload_n 1, 1) := by decide +kernel
theorem d6 : decode yB 6 = .ok (.aload_n 3, 1) := by decide +kernel
theorem d7 : decode yB 7 = .ok (.iconst 0, 1) := by decide +kernel
theorem d8 : decode yB 8 = .ok (.iload_n 2, 1) := by decide +kernel
theorem d9 : decode yB 9 = .ok (.invokestatic 115, 3) := by decide +kernel
theorem d12 : decode yB 12 = .ok (.istore 4, 2) := by decide +kernel
theorem d14 : decode yB 14 = .ok (.iload 4, 2) := by decide +kernel
theorem d16 : decode yB 16 = .ok (.iload_n 2, 1) := by decide +kernel
theorem d17 : decode yB 17 = .ok (.if_icmp (.eq) 40, 3) := by decide +kernel
theorem d57 : decode yB 57 = .ok (.aload_n 3, 1) := by decide +kernel
theorem d58 : decode yB 58 = .ok (.areturn, 1) := by decide +kernel
def site : List Cond := [.arrayClass .byte, Cmp5.tab] ++ staticW U16 115 Cmp5.yN
def tab : Cond := tabOf yN yB 6 (some (.array .byte)) site
def P (b : Addr) (A : Cell) (o len : Nat) (args : Array Value) (s : State) : Prop := args = #[.ref b, .int (Int32.ofNat o), .int (Int32.ofNat len)] ∧ Ch b A s ∧ o + len ≤ A.slots.size ∧ len ≤ 536870912 ∧ ∀ i, i < len → ¬ 255 < cv A (o + i)
def E (b : Addr) (A : Cell) (o len : Nat) (r : Option Value) (s u : State) : Prop := NewArr .byte "[B" len (fun j => .int (lo8 (cv A (o + j)))) r s u ∧ u.heap.size = s.heap.size + 1
/-- no char of the range above 255: a new byte[] of their low bytes -/
theorem law (l : Launch) (b : Addr) (A : Cell) (o len : Nat) : Law l yN 3 3 1 18 yB 6 (some (.array .byte)) site (P b A o len) (E b A o len) [] 1 len := by
  refine Law.of_walk (plainFor_of_name (by decide +kernel)) (by decide +kernel) (by decide +kernel) (by decide) (fun _ _ h => by rw [h.1]; rfl) (fun _ U U' hal hh h => ⟨h.1, h.2.1.mv hal hh, h.2.2⟩) (fun r U U' V V' h1 hal h2 h => ⟨NewArr.mv r U U' V V' h1 hal h2 h.1, by rw [h1, h2]; exact h.2⟩) ?_
  intro p e s m args below meth c s₁ X0 hexec hbytes hml hret hlk hnm hown hh0 W hP
  obtain ⟨rfl, hA, l1, l2, hp⟩ := hP
  have a31 := hA.1.2.2.2
  have c1 : Steps p.tables e below (s₁.setTop (entryFrame m #[.ref b, .int (Int32.ofNat o), .int (Int32.ofNat len)] 6)) (s₁.setTop (mkF m 0 #[.val (.ref b), .val (.int (Int32.ofNat o)), .val (.int (Int32.ofNat len)), .unset, .unset, .unset] [])) := entry rfl
  have c2 : Steps p.tables e below (s₁.setTop (entryFrame m #[.ref b, .int (Int32.ofNat o), .int (Int32.ofNat len)] 6)) (s₁.setTop (mkF m 1 #[.val (.ref b), .val (.int (Int32.ofNat o)), .val (.int (Int32.ofNat len)), .unset, .unset, .unset] [.int (Int32.ofNat len)])) := c1.trans (by
    refine XS.iloadN X0.here hexec rfl (hb hbytes d0) rfl ?_
    exact Steps.refl _)
  obtain ⟨T3, B3, X3, ba3, bs3, bv3, bh3, bf3, st3⟩ := X0.anew hexec (atype := .byte) (wk W (.arrayClass .byte)) rfl (by show len * 1 ≤ _; omega) (by omega) (g := (mkF m 1 #[.val (.ref b), .val (.int (Int32.ofNat o)), .val (.int (Int32.ofNat len)), .unset, .unset, .unset] [.int (Int32.ofNat len)])) rfl (hb hbytes d1) (rest := []) rfl (Nat.le_refl _) (by show 0 + len ≤ len; omega)
  rw [hh0] at ba3 st3
  have kp3 : XT.Kept s T3 := (XT.Kept.of_eq hh0).push bh3
  have hA3 := hA.keep X3.warmed.alike (kp3 _ _ hA.1.1)
  have hne : b ≠ s.heap.size := hA.1.ne
  have c4 : Steps p.tables e below (s₁.setTop (entryFrame m #[.ref b, .int (Int32.ofNat o), .int (Int32.ofNat len)] 6)) (T3.setTop (mkF m 3 #[.val (.ref b), .val (.int (Int32.ofNat o)), .val (.int (Int32.ofNat len)), .unset, .unset, .unset] [.ref s.heap.size])) := c2.trans (st3 _ (Steps.refl _))
  have c5 : Steps p.tables e below (s₁.setTop (entryFrame m #[.ref b, .int (Int32.ofNat o), .int (Int32.ofNat len)] 6)) (T3.setTop (mkF m 9 #[.val (.ref b), .val (.int (Int32.ofNat o)), .val (.int (Int32.ofNat len)), .val (.ref s.heap.size), .unset, .unset] [.int (Int32.ofNat len), .int 0, .ref s.heap.size, .int (Int32.ofNat o), .ref b])) := c4.trans (by
    refine XS.astoreN X3.here hexec rfl (hb hbytes d3) rfl rfl rfl ?_
    refine XS.aloadN X3.here hexec rfl (hb hbytes d4) rfl rfl ?_
    refine XS.iloadN X3.here hexec rfl (hb hbytes d5) rfl ?_
    refine XS.aloadN X3.here hexec rfl (hb hbytes d6) rfl rfl ?_
    refine iconstV X3.here hexec rfl 0 (hb hbytes d7) (by decide) ?_
    refine XS.iloadN X3.here hexec rfl (hb hbytes d8) rfl ?_
    exact Steps.refl _)
  obtain ⟨v6, T6, X6, E6, g6⟩ := X3.callS hexec (Cmp5.law l b A s.heap.size B3 o 0 len) hown (wks W (staticW U16 115 Cmp5.yN)) (wk W Cmp5.tab) (W := 0) (Nat.le_of_ble_eq_true rfl) (Nat.le_of_ble_eq_true rfl) (Nat.le_refl _) (by show 0 + len + 0 ≤ len; omega) (g := (mkF m 9 #[.val (.ref b), .val (.int (Int32.ofNat o)), .val (.int (Int32.ofNat len)), .val (.ref s.heap.size), .unset, .unset] [.int (Int32.ofNat len), .int (Int32.ofNat 0), .ref s.heap.size, .int (Int32.ofNat o), .ref b])) rfl (by rw [hml]; rfl) c5 (argsL := [.ref b, .int (Int32.ofNat o), .ref s.heap.size, .int (Int32.ofNat 0), .int (Int32.ofNat len)]) (rest := []) rfl rfl (by show 2 * 0 + 0 ≤ _; decide) (hb hbytes d9) (⟨rfl, hA3, ba3, hne, l1, by rw [bs3]; simp, hp⟩)
  obtain ⟨rfl, B6, p6, f6⟩ := E6
  have c7 : Steps p.tables e below (s₁.setTop (entryFrame m #[.ref b, .int (Int32.ofNat o), .int (Int32.ofNat len)] 6)) (T6.setTop (mkF m 12 #[.val (.ref b), .val (.int (Int32.ofNat o)), .val (.int (Int32.ofNat len)), .val (.ref s.heap.size), .unset, .unset] [.int (Int32.ofNat len)])) := g6
  have c8 : Steps p.tables e below (s₁.setTop (entryFrame m #[.ref b, .int (Int32.ofNat o), .int (Int32.ofNat len)] 6)) (T6.setTop (mkF m 58 #[.val (.ref b), .val (.int (Int32.ofNat o)), .val (.int (Int32.ofNat len)), .val (.ref s.heap.size), .val (.int (Int32.ofNat len)), .unset] [.ref s.heap.size])) := c7.trans (by
    refine XS.istore X6.here hexec rfl (hb hbytes d12) rfl rfl ?_
    refine XS.iload X6.here hexec rfl (hb hbytes d14) rfl ?_
    refine XS.iloadN X6.here hexec rfl (hb hbytes d16) rfl ?_
    refine XS.icmpYes X6.here hexec rfl (pc0 := 17) rfl (hb hbytes d17) rfl (ii_eq_t rfl) (by decide) rfl ?_
    refine XS.aloadN X6.here hexec rfl (hb hbytes d57) rfl rfl ?_
    exact Steps.refl _)
  have X8 := X6.wide (L' := []) (cells' := 1) (slots' := len) (fun x hx hlt => by
    simp only [List.nil_append, copyLocs, List.mem_map, List.mem_range] at hx
    obtain ⟨i, -, rfl⟩ := hx
    exact absurd hlt (Nat.lt_irrefl _)) (Nat.le_refl _) (by omega)
  exact ⟨T6, some (.ref s.heap.size), _, _, _, X8, rfl, rfl, rfl, (fun h => by cases h), ⟨⟨rfl, B6, ba3.like (X3.warmed.alike.symm.trans X6.warmed.alike) p6.1 f6.1 f6.2.1 f6.2.2.1, f6.2.1.trans bv3, by rw [X6.warmed.alike.findClass, f6.1]; exact bf3, by rw [f6.2.2.1, bs3]; simp, fun j hj => by rw [f6.2.2.2 j, if_pos (by omega)]; rfl, kp3.put p6 (Nat.le_refl _)⟩, by rw [p6.2.2, bh3, hh0]; simp⟩, fun fs hl => c8.trans (X8.areturnOut hexec rfl hret rfl (hb hbytes d58) hl)⟩
end Cmp3
namespace CodL
def yN : MethodName := ⟨"java/lang/StringUTF16", "coderFromArrayLen", "([BI)B"⟩
abbrev yB : ByteArray := jdk_52_method_15_code
theorem d0 : decode yB 0 = .ok (.iload_n 1, 1) := by decide +kernel
theorem d1 : decode yB 1 = .ok (.aload_n 0, 1) := by decide +kernel
theorem d2 : decode yB 2 = .ok (.arraylength, 1) := by decide +kernel
theorem d3 : decode yB 3 = .ok (.isub, 1) := by decide +kernel
theorem d4 : decode yB 4 = .ok (.bipush 31, 2) := by decide +kernel
theorem d6 : decode yB 6 = .ok (.iushr, 1) := by decide +kernel
theorem d7 : decode yB 7 = .ok (.i2b, 1) := by decide +kernel
theorem d8 : decode yB 8 = .ok (.ireturn, 1) := by decide +kernel
def site : List Cond := []
def tab : Cond := tabOf yN yB 2 (some .byte) site
def P (d : Addr) (B : Cell) (args : Array Value) (s : State) : Prop := args = #[.ref d, .int (Int32.ofNat B.slots.size)] ∧ Arr .byte d B s
def E (r : Option Value) (s u : State) : Prop := XT.PureE (some (.int 0)) r s u
/-- an array as long as the number of chars: LATIN1 -/
theorem law (l : Launch) (d : Addr) (B : Cell) : Law l yN 2 2 0 0 yB 2 (some .byte) site (P d B) E [] 0 0 := by
  refine Law.of_walk (plainFor_of_name (by decide +kernel)) (by decide +kernel) (by decide +kernel) (by decide) (fun _ _ h => by rw [h.1]; rfl) (fun _ U U' hal hh h => ⟨h.1, h.2.mv hal hh⟩) (fun r U U' V V' h1 hal h2 h => XT.PureE.mv r U U' V V' h1 hal h2 h) ?_
  intro p e s m args below meth c s₁ X0 hexec hbytes hml hret hlk hnm hown hh0 W hP
  obtain ⟨rfl, hB⟩ := hP
  have hB0 := hB.mv X0.warmed.alike hh0
  have c1 : Steps p.tables e below (s₁.setTop (entryFrame m #[.ref d, .int (Int32.ofNat B.slots.size)] 2)) (s₁.setTop (mkF m 0 #[.val (.ref d), .val (.int (Int32.ofNat B.slots.size))] [])) := entry rfl
  have c2 : Steps p.tables e below (s₁.setTop (entryFrame m #[.ref d, .int (Int32.ofNat B.slots.size)] 2)) (s₁.setTop (mkF m 2 #[.val (.ref d), .val (.int (Int32.ofNat B.slots.size))] [.ref d, .int (Int32.ofNat B.slots.size)])) := c1.trans (by
    refine XS.iloadN X0.here hexec rfl (hb hbytes d0) rfl ?_
    refine XS.aloadN X0.here hexec rfl (hb hbytes d1) rfl rfl ?_
    exact Steps.refl _)
  have c3 : Steps p.tables e below (s₁.setTop (entryFrame m #[.ref d, .int (Int32.ofNat B.slots.size)] 2)) (s₁.setTop (mkF m 8 #[.val (.ref d), .val (.int (Int32.ofNat B.slots.size))] [.int (lo8 (ushr (Int32.ofNat B.slots.size - Int32.ofNat B.slots.size) 31))])) := c2.trans (by
    refine X0.alen hexec hB0 rfl rfl (hb hbytes d2) ?_
    refine XS.isub X0.here hexec rfl (hb hbytes d3) rfl ?_
    refine bipushV X0.here hexec rfl 31 (hb hbytes d4) (by decide) ?_
    refine iushr X0.here hexec rfl (hb hbytes d6) rfl ?_
    refine i2b X0.here hexec rfl (hb hbytes d7) rfl ?_
    exact Steps.refl _)
  have e0 : lo8 (ushr (Int32.ofNat B.slots.size - Int32.ofNat B.slots.size) 31) = 0 := by rw [Int32.sub_self]; decide
  rw [e0] at c3
  exact ⟨s₁, some (.int 0), _, _, _, X0, rfl, rfl, rfl, (fun h => by cases h), ⟨rfl, hh0⟩, fun fs hl => c3.trans (X0.ireturnOut hexec hret rfl (Or.inr (Or.inr (Or.inl rfl))) (hb hbytes d8) hl)⟩
end CodL
/-- the String at a is Latin-1 over a new byte[] (the heap's one new cell): the low bytes of the len chars of A from o on; every cell but a is kept -/
def Got (a : Addr) (D : Cell) (fV fC : Field) (A : Cell) (o len : Nat) (r : Option Value) (s u : State) : Prop := r = none ∧ ∃ D' V : Cell, Blank "java/lang/String" a D' u ∧ Same D D' [fV.slot, fC.slot] ∧ D'.slots[fV.slot]? = some (.ref s.heap.size) ∧ D'.slots[fC.slot]? = some (.int 0) ∧ Arr .byte s.heap.size V u ∧ V.vm = .none ∧ u.vm.findClass "[B" = some V.cls ∧ V.slots.size = len ∧ (∀ j, j < len → V.slots[j]? = some (.int (lo8 (cv A (o + j))))) ∧ (∀ (y : Addr) (c : Cell), y ≠ a → s.heap[y]? = some c → u.heap[y]? = some c) ∧ u.heap.size = s.heap.size + 1
theorem Got.mv {a : Addr} {D A : Cell} {fV fC : Field} {o len : Nat} : ∀ r (U U' V V' : State), U'.heap = U.heap → V.vm.Alike V'.vm → V'.heap = V.heap → Got a D fV fC A o len r U V → Got a D fV fC A o len r U' V' :=
  fun r U U' V V' h1 hal h2 ⟨e0, D', X, a1, a2, a3, a4, a5, a6, a7, a8, a9, a10, a11⟩ => ⟨e0, D', X, a1.mv hal h2, a2, by rw [h1]; exact a3, a4, by rw [h1]; exact a5.mv hal h2, a6, by rw [hal.findClass]; exact a7, a8, a9, by rw [h1, h2]; exact a10, by rw [h1, h2]; exact a11⟩
namespace New4
def yN : MethodName := ⟨"java/lang/String", "<init>", "([CIILjava/lang/Void;)V"⟩
abbrev yB : ByteArray := jdk_42_method_149_code
theorem d0 : decode yB 0 = .ok (.aload_n 0, 1) := by decide +kernel
theorem d1 : decode yB 1 = .ok (.invokespecial 1, 3) := by decide +kernel
theorem d4 : decode yB 4 = .ok (.iload_n 3, 1) := by decide +kernel
theorem d5 : decode yB 5 = .ok (.ifCond (.ne) 22, 3) := by decide +kernel
theorem d27 : decode yB 27 = .ok (.getstatic 38, 3) := by decide +kernel
theorem d30 : decode yB 30 = .ok (.ifCond (.eq) 28, 3) := by decide +kernel
theorem d33 : decode yB 33 = .ok (.aload_n 1, 1) := by decide +kernel
theorem d34 : decode yB 34 = .ok (.iload_n 2, 1) := by decide +kernel
theorem d35 : decode yB 35 = .ok (.iload_n 3, 1) := by decide +kernel
theorem d36 : decode yB 36 = .ok (.invokestatic 177, 3) := by decide +kernel
theorem d39 : decode yB 39 = .ok (.astore 5, 2) := by decide +kernel
theorem d41 : decode yB 41 = .ok (.aload_n 0, 1) := by decide +kernel
theorem d42 : decode yB 42 = .ok (.aload 5, 2) := by decide +kernel
theorem d44 : decode yB 44 = .ok (.iload_n 3, 1) := by decide +kernel
theorem d45 : decode yB 45 = .ok (.invokestatic 47, 3) := by decide +kernel
theorem d48 : decode yB 48 = .ok (.putfield 15, 3) := by decide +kernel
theorem d51 : decode yB 51 = .ok (.aload_n 0, 1) := by decide +kernel
theorem d52 : decode yB 52 = .ok (.aload 5, 2) := by decide +kernel
theorem d54 : decode yB 54 = .ok (.putfield 9, 3) := by decide +kernel
theorem d57 : decode yB 57 = .ok (.return_, 1) := by decide +kernel
def site : List Cond := [.fieldLink "java/lang/String" 38 "java/lang/String" "COMPACT_STRINGS" "Z", Cmp3.tab, CodL.tab, .laysFinal "java/lang/String" "java/lang/String" "value" "[B", .fieldLink "java/lang/String" 9 "java/lang/String" "value" "[B", .laysFinal "java/lang/String" "java/lang/String" "coder" "B", .fieldLink "java/lang/String" 15 "java/lang/String" "coder" "B"] ++ objW "java/lang/String" 1 ++ staticW "java/lang/String" 177 Cmp3.yN ++ staticW "java/lang/String" 47 CodL.yN
def tab : Cond := tabOf yN yB 6 none site
def P (a : Addr) (D : Cell) (fV fC : Field) (b : Addr) (A : Cell) (z : Int32) (o len : Nat) (args : Array Value) (s : State) : Prop := args = #[.ref a, .ref b, .int (Int32.ofNat o), .int (Int32.ofNat len), .null] ∧ Blank "java/lang/String" a D s ∧ Found "java/lang/String" "value" "[B" fV s ∧ Found "java/lang/String" "coder" "B" fC s ∧ Ch b A s ∧ StaticIs s "java/lang/String" "COMPACT_STRINGS" "Z" (.int z) ∧ ¬ z = 0 ∧ 0 < len ∧ o + len ≤ A.slots.size ∧ len ≤ 536870912 ∧ ∀ i, i < len → ¬ 255 < cv A (o + i)
def E (a : Addr) (D : Cell) (fV fC : Field) (A : Cell) (o len : Nat) (r : Option Value) (s u : State) : Prop := Got a D fV fC A o len r s u
/-- len > 0, no char of the range above 255: a Latin-1 String of their low bytes -/
theorem law (l : Launch) (a : Addr) (D : Cell) (fV fC : Field) (b : Addr) (A : Cell) (z : Int32) (o len : Nat) : Law l yN 5 4 2 35 yB 6 none site (P a D fV fC b A z o len) (E a D fV fC A o len) [⟨a, fC.slot⟩, ⟨a, fV.slot⟩] 1 len := by
  refine Law.of_walk (plainFor_of_name (by decide +kernel)) (by decide +kernel) (by decide +kernel) (by decide) (fun _ _ h => by rw [h.1]; rfl) (fun _ U U' hal hh h => ⟨h.1, h.2.1.mv hal hh, h.2.2.1.al hal, h.2.2.2.1.al hal, h.2.2.2.2.1.mv hal hh, h.2.2.2.2.2.1.there hal hh, h.2.2.2.2.2.2⟩) (fun r U U' V V' h1 hal h2 h => Got.mv r U U' V V' h1 hal h2 h) ?_
  intro p e s m args below meth c s₁ X0 hexec hbytes hml hret hlk hnm hown hh0 W hP
  obtain ⟨rfl, hB, f1, f2, hA, s1, hz, l0, l1, l2, hp⟩ := hP
  have a31 := hA.1.2.2.2
  have c1 : Steps p.tables e below (s₁.setTop (entryFrame m #[.ref a, .ref b, .int (Int32.ofNat o), .int (Int32.ofNat len), .null] 6)) (s₁.setTop (mkF m 0 #[.val (.ref a), .val (.ref b), .val (.int (Int32.ofNat o)), .val (.int (Int32.ofNat len)), .val .null, .unset] [])) := entry rfl
  have c2 : Steps p.tables e below (s₁.setTop (entryFrame m #[.ref a, .ref b, .int (Int32.ofNat o), .int (Int32.ofNat len), .null] 6)) (s₁.setTop (mkF m 1 #[.val (.ref a), .val (.ref b), .val (.int (Int32.ofNat o)), .val (.int (Int32.ofNat len)), .val .null, .unset] [.ref a])) := c1.trans (by
    refine XS.aloadN X0.here hexec rfl (hb hbytes d0) rfl rfl ?_
    exact Steps.refl _)
  obtain ⟨T3, X3, q3, st3⟩ := X0.oinit hexec hown (wks W (objW "java/lang/String" 1)) (g := (mkF m 1 #[.val (.ref a), .val (.ref b), .val (.int (Int32.ofNat o)), .val (.int (Int32.ofNat len)), .val .null, .unset] [.ref a])) rfl (by rw [hml]; rfl) (rest := []) rfl (hb hbytes d1) (W := 0) (by show 2 * 0 + 0 ≤ _; decide) (Nat.le_of_ble_eq_true rfl) (Nat.le_of_ble_eq_true rfl)
  have hh3 := q3.trans hh0
  have c4 : Steps p.tables e below (s₁.setTop (entryFrame m #[.ref a, .ref b, .int (Int32.ofNat o), .int (Int32.ofNat len), .null] 6)) (T3.setTop (mkF m 27 #[.val (.ref a), .val (.ref b), .val (.int (Int32.ofNat o)), .val (.int (Int32.ofNat len)), .val .null, .unset] [])) := (c2.trans (st3 _ (Steps.refl _))).trans (by
    refine XS.iloadN X3.here hexec rfl (hb hbytes d4) rfl ?_
    refine XS.ifYes X3.here hexec rfl (pc0 := 5) rfl (hb hbytes d5) rfl (i0_ne_t (nz32 (by omega) l0)) (by decide) rfl ?_
    exact Steps.refl _)
  obtain ⟨T5, X5, q5, st5⟩ := X3.sget hexec hown (wk W (.fieldLink "java/lang/String" 38 "java/lang/String" "COMPACT_STRINGS" "Z")) s1 (fun _ _ h => by rw [hh3]; exact h) (g := (mkF m 27 #[.val (.ref a), .val (.ref b), .val (.int (Int32.ofNat o)), .val (.int (Int32.ofNat len)), .val .null, .unset] [])) rfl (hb hbytes d27)
  have hh5 := q5.trans hh3
  have c6 : Steps p.tables e below (s₁.setTop (entryFrame m #[.ref a, .ref b, .int (Int32.ofNat o), .int (Int32.ofNat len), .null] 6)) (T5.setTop (mkF m 30 #[.val (.ref a), .val (.ref b), .val (.int (Int32.ofNat o)), .val (.int (Int32.ofNat len)), .val .null, .unset] [.int z])) := c4.trans (st5 _ (Steps.refl _))
  have c7 : Steps p.tables e below (s₁.setTop (entryFrame m #[.ref a, .ref b, .int (Int32.ofNat o), .int (Int32.ofNat len), .null] 6)) (T5.setTop (mkF m 36 #[.val (.ref a), .val (.ref b), .val (.int (Int32.ofNat o)), .val (.int (Int32.ofNat len)), .val .null, .unset] [.int (Int32.ofNat len), .int (Int32.ofNat o), .ref b])) := c6.trans (by
    refine XS.ifNo X5.here hexec rfl (hb hbytes d30) rfl (i0_eq_f hz) ?_
    refine XS.aloadN X5.here hexec rfl (hb hbytes d33) rfl rfl ?_
    refine XS.iloadN X5.here hexec rfl (hb hbytes d34) rfl ?_
    refine XS.iloadN X5.here hexec rfl (hb hbytes d35) rfl ?_
    exact Steps.refl _)
  obtain ⟨v8, T8, X8, E8, g8⟩ := X5.callS hexec (Cmp3.law l b A o len) hown (wks W (staticW "java/lang/String" 177 Cmp3.yN)) (wk W Cmp3.tab) (W := 0) (Nat.le_of_ble_eq_true rfl) (Nat.le_of_ble_eq_true rfl) (Nat.le_refl _) (by show 0 + len ≤ len; omega) (g := (mkF m 36 #[.val (.ref a), .val (.ref b), .val (.int (Int32.ofNat o)), .val (.int (Int32.ofNat len)), .val .null, .unset] [.int (Int32.ofNat len), .int (Int32.ofNat o), .ref b])) rfl (by rw [hml]; rfl) c7 (argsL := [.ref b, .int (Int32.ofNat o), .int (Int32.ofNat len)]) (rest := []) rfl rfl (by show 2 * 0 + 0 ≤ _; decide) (hb hbytes d36) (⟨rfl, hA.mv X5.warmed.alike hh5, l1, l2, hp⟩)
  obtain ⟨e8, z8⟩ := E8
  obtain ⟨rfl, N, n1, n2, n3, n4, n5, n6⟩ := NewArr.mv _ T5 s _ _ hh5.symm (Vm.Alike.refl _) rfl e8
  rw [hh5] at z8
  have hB1 := hB.keep X8.warmed.alike (n6 _ _ hB.1)
  have hne : s.heap.size ≠ a := (Nat.ne_of_lt (Array.getElem?_eq_some_iff.mp hB.1).1).symm
  have c9 : Steps p.tables e below (s₁.setTop (entryFrame m #[.ref a, .ref b, .int (Int32.ofNat o), .int (Int32.ofNat len), .null] 6)) (T8.setTop (mkF m 39 #[.val (.ref a), .val (.ref b), .val (.int (Int32.ofNat o)), .val (.int (Int32.ofNat len)), .val .null, .unset] [.ref s.heap.size])) := g8
  have c10 : Steps p.tables e below (s₁.setTop (entryFrame m #[.ref a, .ref b, .int (Int32.ofNat o), .int (Int32.ofNat len), .null] 6)) (T8.setTop (mkF m 45 #[.val (.ref a), .val (.ref b), .val (.int (Int32.ofNat o)), .val (.int (Int32.ofNat len)), .val .null, .val (.ref s.heap.size)] [.int (Int32.ofNat N.slots.size), .ref s.heap.size, .ref a])) := by
    have hc : Steps p.tables e below (s₁.setTop (entryFrame m #[.ref a, .ref b, .int (Int32.ofNat o), .int (Int32.ofNat len), .null] 6)) (T8.setTop (mkF m 45 #[.val (.ref a), .val (.ref b), .val (.int (Int32.ofNat o)), .val (.int (Int32.ofNat len)), .val .null, .val (.ref s.heap.size)] [.int (Int32.ofNat len), .ref s.heap.size, .ref a])) := c9.trans (by
      refine XS.astore X8.here hexec rfl (hb hbytes d39) rfl rfl rfl ?_
      refine XS.aloadN X8.here hexec rfl (hb hbytes d41) rfl rfl ?_
      refine XS.aload X8.here hexec rfl (hb hbytes d42) rfl rfl ?_
      refine XS.iloadN X8.here hexec rfl (hb hbytes d44) rfl ?_
      exact Steps.refl _)
    rw [n4]; exact hc
  obtain ⟨v11, T11, X11, E11, g11⟩ := X8.callS hexec (CodL.law l s.heap.size N) hown (wks W (staticW "java/lang/String" 47 CodL.yN)) (wk W CodL.tab) (W := 1) (Nat.le_of_ble_eq_true rfl) (Nat.le_of_ble_eq_true rfl) (Nat.le_refl _) (by show 0 + len + 0 ≤ len; omega) (g := (mkF m 45 #[.val (.ref a), .val (.ref b), .val (.int (Int32.ofNat o)), .val (.int (Int32.ofNat len)), .val .null, .val (.ref s.heap.size)] [.int (Int32.ofNat N.slots.size), .ref s.heap.size, .ref a])) rfl (by rw [hml]; rfl) c10 (argsL := [.ref s.heap.size, .int (Int32.ofNat N.slots.size)]) (rest := [.ref a]) rfl rfl (by show 2 * 0 + (1 + 0) ≤ _; decide) (hb hbytes d45) (⟨rfl, n1⟩)
  obtain ⟨rfl, q11⟩ := E11
  have hB11 := hB1.mv (X8.warmed.alike.symm.trans X11.warmed.alike) q11
  have c12 : Steps p.tables e below (s₁.setTop (entryFrame m #[.ref a, .ref b, .int (Int32.ofNat o), .int (Int32.ofNat len), .null] 6)) (T11.setTop (mkF m 48 #[.val (.ref a), .val (.ref b), .val (.int (Int32.ofNat o)), .val (.int (Int32.ofNat len)), .val .null, .val (.ref s.heap.size)] [.int 0, .ref a])) := g11
  obtain ⟨T13, X13, p13, bl13, sl13, st13⟩ := X11.finit hexec hown (wk W (.fieldLink "java/lang/String" 15 "java/lang/String" "coder" "B")) (Or.inr ⟨_, (wk W (.laysFinal "java/lang/String" "java/lang/String" "coder" "B"))⟩) (Or.inl ⟨rfl, hnm⟩) f2 (Or.inl rfl) hB11 (t := .byte) (by decide +kernel) rfl (g := (mkF m 48 #[.val (.ref a), .val (.ref b), .val (.int (Int32.ofNat o)), .val (.int (Int32.ofNat len)), .val .null, .val (.ref s.heap.size)] [.int 0, .ref a])) rfl (rest := []) rfl (hb hbytes d48)
  have c14 : Steps p.tables e below (s₁.setTop (entryFrame m #[.ref a, .ref b, .int (Int32.ofNat o), .int (Int32.ofNat len), .null] 6)) (T13.setTop (mkF m 54 #[.val (.ref a), .val (.ref b), .val (.int (Int32.ofNat o)), .val (.int (Int32.ofNat len)), .val .null, .val (.ref s.heap.size)] [.ref s.heap.size, .ref a])) := (c12.trans (st13 _ (Steps.refl _))).trans (by
    refine XS.aloadN X13.here hexec rfl (hb hbytes d51) rfl rfl ?_
    refine XS.aload X13.here hexec rfl (hb hbytes d52) rfl rfl ?_
    exact Steps.refl _)
  obtain ⟨T15, X15, p15, bl15, sl15, st15⟩ := X13.finit hexec hown (wk W (.fieldLink "java/lang/String" 9 "java/lang/String" "value" "[B")) (Or.inr ⟨_, (wk W (.laysFinal "java/lang/String" "java/lang/String" "value" "[B"))⟩) (Or.inl ⟨rfl, hnm⟩) f1 (Or.inl rfl) bl13 (t := (.array .byte)) (by decide +kernel) rfl (g := (mkF m 54 #[.val (.ref a), .val (.ref b), .val (.int (Int32.ofNat o)), .val (.int (Int32.ofNat len)), .val .null, .val (.ref s.heap.size)] [.ref s.heap.size, .ref a])) rfl (rest := []) rfl (hb hbytes d54)
  have c16 : Steps p.tables e below (s₁.setTop (entryFrame m #[.ref a, .ref b, .int (Int32.ofNat o), .int (Int32.ofNat len), .null] 6)) (T15.setTop (mkF m 57 #[.val (.ref a), .val (.ref b), .val (.int (Int32.ofNat o)), .val (.int (Int32.ofNat len)), .val .null, .val (.ref s.heap.size)] [])) := c14.trans (st15 _ (Steps.refl _))
  have ap := apart (Or.inr ⟨_, (wk W (.laysFinal "java/lang/String" "java/lang/String" "value" "[B"))⟩) (Or.inr ⟨_, (wk W (.laysFinal "java/lang/String" "java/lang/String" "coder" "B"))⟩) f1 f2 (t₁ := .array .byte) (t₂ := .byte) (by decide +kernel) (by decide +kernel) (by decide)
  have al := X8.warmed.alike.symm.trans X15.warmed.alike
  have n7 : T11.heap[s.heap.size]? = some N := by rw [q11]; exact n1.1
  exact ⟨T15, none, _, _, _, X15, by simp, rfl, by omega, (fun _ => rfl), ⟨rfl, _, N, bl15, ((Same.refl D _).set _ (by simp)).set _ (by simp), sl15, (Cell.slots_setSlot_ne _ ap).trans sl13, n1.keep al (p15.other hne (p13.other hne n7)), n2, by rw [al.findClass]; exact n3, n4, n5, fun y c h1 h2 => p15.other h1 (p13.other h1 (by rw [q11]; exact n6 y c h2)), by rw [p15.2.2, p13.2.2, q11]; exact z8⟩, fun fs hl => c16.trans (X15.returnOut hexec hret (hb hbytes d57) hl)⟩
end New4
namespace New1
def yN : MethodName := ⟨"java/lang/String", "<init>", "([C)V"⟩
abbrev yB : ByteArray := jdk_42_method_3_code
theorem d0 : decode yB 0 = .ok (.aload_n 0, 1) := by decide +kernel
theorem d1 : decode yB 1 = .ok (.aload_n 1, 1) := by decide +kernel
theorem d2 : decode yB 2 = .ok (.iconst 0, 1) := by decide +kernel
theorem d3 : decode yB 3 = .ok (.aload_n 1, 1) := by decide +kernel
theorem d4 : decode yB 4 = .ok (.arraylength, 1) := by decide +kernel
theorem d5 : decode yB 5 = .ok (.aconst_null, 1) := by decide +kernel
theorem d6 : decode yB 6 = .ok (.invokespecial 27, 3) := by decide +kernel
theorem d9 : decode yB 9 = .ok (.return_, 1) := by decide +kernel
def site : List Cond := [New4.tab] ++ initW "java/lang/String" 27 New4.yN
def tab : Cond := tabOf yN yB 2 none site
def P (a : Addr) (D : Cell) (fV fC : Field) (b : Addr) (A : Cell) (z : Int32) (args : Array Value) (s : State) : Prop := args = #[.ref a, .ref b] ∧ Blank "java/lang/String" a D s ∧ Found "java/lang/String" "value" "[B" fV s ∧ Found "java/lang/String" "coder" "B" fC s ∧ Ch b A s ∧ StaticIs s "java/lang/String" "COMPACT_STRINGS" "Z" (.int z) ∧ ¬ z = 0 ∧ 0 < A.slots.size ∧ A.slots.size ≤ 536870912 ∧ ∀ i, i < A.slots.size → ¬ 255 < cv A i
def E (a : Addr) (D : Cell) (fV fC : Field) (A : Cell) (r : Option Value) (s u : State) : Prop := Got a D fV fC A 0 A.slots.size r s u
/-- new String(chars), not empty, no char above 255: a Latin-1 String of their low bytes -/
theorem law (l : Launch) (a : Addr) (D : Cell) (fV fC : Field) (b : Addr) (A : Cell) (z : Int32) : Law l yN 2 1 3 52 yB 2 none site (P a D fV fC b A z) (E a D fV fC A) [⟨a, fC.slot⟩, ⟨a, fV.slot⟩] 1 A.slots.size := by
  refine Law.of_walk (plainFor_of_name (by decide +kernel)) (by decide +kernel) (by decide +kernel) (by decide) (fun _ _ h => by rw [h.1]; rfl) (fun _ U U' hal hh h => ⟨h.1, h.2.1.mv hal hh, h.2.2.1.al hal, h.2.2.2.1.al hal, h.2.2.2.2.1.mv hal hh, h.2.2.2.2.2.1.there hal hh, h.2.2.2.2.2.2⟩) (fun r U U' V V' h1 hal h2 h => Got.mv r U U' V V' h1 hal h2 h) ?_
  intro p e s m args below meth c s₁ X0 hexec hbytes hml hret hlk hnm hown hh0 W hP
  obtain ⟨rfl, hB, f1, f2, hA, s1, hz, l0, l2, hp⟩ := hP
  have c1 : Steps p.tables e below (s₁.setTop (entryFrame m #[.ref a, .ref b] 2)) (s₁.setTop (mkF m 0 #[.val (.ref a), .val (.ref b)] [])) := entry rfl
  have c2 : Steps p.tables e below (s₁.setTop (entryFrame m #[.ref a, .ref b] 2)) (s₁.setTop (mkF m 6 #[.val (.ref a), .val (.ref b)] [.null, .int (Int32.ofNat A.slots.size), .int 0, .ref b, .ref a])) := c1.trans (by
    refine XS.aloadN X0.here hexec rfl (hb hbytes d0) rfl rfl ?_
    refine XS.aloadN X0.here hexec rfl (hb hbytes d1) rfl rfl ?_
    refine iconstV X0.here hexec rfl 0 (hb hbytes d2) (by decide) ?_
    refine XS.aloadN X0.here hexec rfl (hb hbytes d3) rfl rfl ?_
    refine X0.alen hexec (hA.1.mv X0.warmed.alike hh0) rfl rfl (hb hbytes d4) ?_
    refine XS.aconstNull X0.here hexec rfl (hb hbytes d5) ?_
    exact Steps.refl _)
  obtain ⟨v3, T3, X3, E3, g3⟩ := X0.callN hexec (New4.law l a D fV fC b A z 0 A.slots.size) rfl hown (wks W (initW "java/lang/String" 27 New4.yN)) (W New4.tab (by simp only [site, List.mem_cons, List.mem_append, true_or, or_true])) (W := 0) (Nat.le_of_ble_eq_true rfl) (Nat.le_of_ble_eq_true rfl) (Nat.le_refl _) (by show 0 + A.slots.size ≤ A.slots.size; omega) (g := (mkF m 6 #[.val (.ref a), .val (.ref b)] [.null, .int (Int32.ofNat A.slots.size), .int (Int32.ofNat 0), .ref b, .ref a])) rfl (by rw [hml]; rfl) c2 (argsL := [.ref b, .int (Int32.ofNat 0), .int (Int32.ofNat A.slots.size), .null]) (rest := []) rfl rfl (by show 2 * 0 + 0 ≤ _; decide) (hb hbytes d6) (⟨rfl, hB.mv X0.warmed.alike hh0, f1.al X0.warmed.alike, f2.al X0.warmed.alike, hA.mv X0.warmed.alike hh0, s1.there X0.warmed.alike hh0, hz, l0, by omega, l2, fun i hi => by rw [Nat.zero_add]; exact hp i hi⟩)
  have e0 := Got.mv _ s₁ s _ _ hh0.symm (Vm.Alike.refl _) rfl E3
  obtain rfl := e0.1
  have c4 : Steps p.tables e below (s₁.setTop (entryFrame m #[.ref a, .ref b] 2)) (T3.setTop (mkF m 9 #[.val (.ref a), .val (.ref b)] [])) := g3
  exact ⟨T3, none, _, _, _, X3, by simp, rfl, by omega, (fun _ => rfl), e0, fun fs hl => c4.trans (X3.returnOut hexec hret (hb hbytes d9) hl)⟩
theorem pays {l : Launch} {R : Room} {p : Program} {e : Env} {below : List Frame} {s : State} {sargs : Array Value} {len W : Nat} (a : Addr) (D : Cell) (fV fC : Field) (b : Addr) (A : Cell) (z : Int32) (htab : tab.before sargs s = true) (hfr : 4 ≤ R.frames) (hlo : W + 65 ≤ R.locals) :
    Back l R p e below s sargs yN len W (fun A₁ a₁ => A₁.cells + 1 ≤ R.cells ∧ A₁.slots + A.slots.size ≤ R.slots ∧ P a D fV fC b A z a₁ A₁.U) (fun A₁ _ v₁ B₁ => E a D fV fC A v₁ A₁.U B₁.U ∧ B₁.locs = A₁.locs ++ [⟨a, fC.slot⟩, ⟨a, fV.slot⟩] ∧ B₁.cells = A₁.cells + 1 ∧ B₁.slots = A₁.slots + A.slots.size) :=
  (law l a D fV fC b A z).pays htab hfr (by omega)
end New1
/-- the byte, read back as charAt reads it, is the char -/
theorem lo8_mask {x : Int32} (h0 : ¬ x < 0) (h1 : ¬ 255 < x) : lo8 x &&& 255 = x := by
  have t : ∀ k : Fin 256, lo8 (Int32.ofNat k.val) &&& 255 = Int32.ofNat k.val := by decide +kernel
  rw [Int32.lt_iff_toInt_lt] at h0 h1
  have e0 : (0 : Int32).toInt = 0 := rfl
  have e1 : (255 : Int32).toInt = 255 := rfl
  obtain ⟨k, hk⟩ : ∃ k : Nat, x.toInt = k := ⟨x.toInt.toNat, by omega⟩
  have hx : x = Int32.ofNat k := Int32.toInt_inj.mp (by rw [hk, Int32.toInt_ofNat_small (by omega)])
  rw [hx]
  exact t ⟨k, by omega⟩
end StrChars
namespace StrChars.Road
open Jvm Sem ClassFile Op Lib Jvm.Stand Jvm.Free Jvm.Free.XT
open Jvm.Lib.Cold (StaticIs)
abbrev ST : String := "java/lang/String"
/-- every table word that New1's law asks, flat -/
abbrev words : List Jvm.Cond := [.code New1.yN New1.yB 2 none, .initialized ST, .methodLink ST 27 New4.yN, .instanceMethod New4.yN,
  .code New4.yN New4.yB 6 none, .fieldLink ST 38 ST "COMPACT_STRINGS" "Z", .laysFinal ST ST "value" "[B", .fieldLink ST 9 ST "value" "[B", .laysFinal ST ST "coder" "B", .fieldLink ST 15 ST "coder" "B",
  .methodLink ST 1 Lib.objectInit, .instanceMethod Lib.objectInit, .code Lib.objectInit ⟨#[0xb1]⟩ 1 none, .methodLink ST 177 Cmp3.yN, .static Cmp3.yN, .methodLink ST 47 CodL.yN, .static CodL.yN,
  .code Cmp3.yN Cmp3.yB 6 (some (.array .byte)), .initialized U16, .arrayClass .byte, .methodLink U16 115 Cmp5.yN, .static Cmp5.yN, .code Cmp5.yN Cmp5.yB 7 (some .int), .code CodL.yN CodL.yB 2 (some .byte)]
theorem tab_of {a : Array Value} {s : State} (h : ∀ w ∈ words, w.before a s = true) : New1.tab.before a s = true := by
  have h5 : Cmp5.tab.before a s = true := unparts (wk h (.code Cmp5.yN Cmp5.yB 7 (some .int))) (wks h (.initialized Cmp5.yN.cls :: Cmp5.site))
  have hc : CodL.tab.before a s = true := unparts (wk h (.code CodL.yN CodL.yB 2 (some .byte))) (wks h (.initialized CodL.yN.cls :: CodL.site))
  have q5 : ∀ w ∈ Cmp5.tab :: words, w.before a s = true := fun w hw => (List.mem_cons.mp hw).elim (fun e => e ▸ h5) (h w)
  have h3 : Cmp3.tab.before a s = true := unparts (wk q5 (.code Cmp3.yN Cmp3.yB 6 (some (.array .byte)))) (wks q5 (.initialized Cmp3.yN.cls :: Cmp3.site))
  have q3 : ∀ w ∈ Cmp3.tab :: CodL.tab :: words, w.before a s = true := fun w hw => (List.mem_cons.mp hw).elim (fun e => e ▸ h3) fun hw => (List.mem_cons.mp hw).elim (fun e => e ▸ hc) (h w)
  have h4 : New4.tab.before a s = true := unparts (wk q3 (.code New4.yN New4.yB 6 none)) (wks q3 (.initialized New4.yN.cls :: New4.site))
  have q4 : ∀ w ∈ New4.tab :: words, w.before a s = true := fun w hw => (List.mem_cons.mp hw).elim (fun e => e ▸ h4) (h w)
  exact unparts (wk q4 (.code New1.yN New1.yB 2 none)) (wks q4 (.initialized New1.yN.cls :: New1.site))
/-- the words ride from the start Z to the walk's own state -/
theorem moved {Z s : State} {a0 args : Array Value} (hZ : Z.Warmed39 s.vm) (hw : ∀ d ∈ words, d.before a0 Z = true) : ∀ d ∈ words, d.before args s = true := fun d hd => by
  have q := hw d hd
  have t : ∀ d ∈ words, d = .arrayClass .byte ∨ (d.onTables && d.keepsFace) = true := by decide +kernel
  rcases t d hd with rfl | t
  · exact RoadKit.mvA hZ q
  · exact RoadKit.mv hZ q t
/-- WHAT COMES BACK, over the tables of the start Z: h the heap at the call, h' behind it -/
def Q (Z : State) (x : Addr) (A : Cell) (h : Heap) (v : Option Value) (h' : Heap) (L : List Loc) : Prop := v = none ∧ (∀ y ∈ L, y.base = x) ∧ RoadKit.Keep h h' [x] ∧ h'.size = h.size + 1 ∧ RoadKit.Exa Z h' x ST ∧ RoadKit.Fld Z h' x ST "value" "[B" (.ref h.size) ∧ RoadKit.Fld Z h' x ST "coder" "B" (.int 0) ∧
  (∃ V : Cell, RoadKit.Arr Z h' h.size V .byte ∧ V.vm = .none ∧ Z.vm.findClass "[B" = some V.cls ∧ V.slots.size = A.slots.size ∧ ∀ j, j < A.slots.size → V.slots[j]? = some (.int (lo8 (cv A j)))) ∧
  ∀ (O n d : String) (w : Value), RoadKit.Fld Z h x O n d w → RoadKit.slotOf Z O n d ≠ RoadKit.slotOf Z ST "value" "[B" → RoadKit.slotOf Z O n d ≠ RoadKit.slotOf Z ST "coder" "B" → RoadKit.Fld Z h' x O n d w
/-- **new String(chars) AT A CALL, IN THE ROAD'S FORM**: for specialBack behind newO: x the fresh String, b the char[] with the cell A -/
theorem back {p : Program} {l : Launch} {e : Env} {R : Room} {s : State} {args : Array Value} {below : List Frame} {len W : Nat} {Z : State} {a0 : Array Value} {h : Heap} (hZ : Z.Warmed39 s.vm) (hw : ∀ d ∈ words, d.before a0 Z = true) {kI : Nat} (wi : (Jvm.Cond.instantiable ST kI).before a0 Z = true)
    {x b : Addr} {A : Cell} {z : Int32} {v0 c0 : Value} (E : RoadKit.Exa Z h x ST) (V : RoadKit.Fld Z h x ST "value" "[B" v0) (C : RoadKit.Fld Z h x ST "coder" "B" c0) (K : RoadKit.Arr Z h b A .char) (hty : Typed .char A) (S : RoadKit.Sta Z h ST "COMPACT_STRINGS" "Z" (.int z)) (hz : ¬ z = 0)
    (l0 : 0 < A.slots.size) (l2 : A.slots.size ≤ 536870912) (hp : ∀ i, i < A.slots.size → ¬ 255 < cv A i) (hfr : 4 ≤ R.frames) (hlo : W + 65 ≤ R.locals) :
    Back l R p e below s args New1.yN len W (fun P a => a = #[.ref x, .ref b] ∧ P.U.heap = h ∧ P.cells + 1 ≤ R.cells ∧ P.slots + A.slots.size ≤ R.slots)
      (fun P _ v B => ∃ L, Q Z x A h v B.U.heap L ∧ B.locs = P.locs ++ L ∧ B.cells = P.cells + 1 ∧ B.slots = P.slots + A.slots.size) := by
  intro m meth c P g ig mk a X hg hsize hdg hW hn hp'
  obtain ⟨rfl, rfl, r1, r2⟩ := hp'
  have al : Z.vm.Alike P.U.vm := hZ.alike.trans X.warmed.alike
  obtain ⟨D, cfV, kV, iV, fV, hD, gV, stV, knV, obV, asV, slV⟩ := id V
  obtain ⟨D', cfC, kC, iC, fC, hD', gC, stC, -, -, asC, slC⟩ := id C
  cases hD.symm.trans hD'
  obtain ⟨D2, kD, e1, e2, e3, e4, e5⟩ := id E
  cases hD.symm.trans e1
  obtain ⟨c2, k2, i1, i2, i3, -⟩ := Cond.instantiable_spec wi
  cases e2.symm.trans i1
  cases e3.symm.trans i2
  obtain ⟨kU, u1, u2⟩ := al.2.2 _ _ e3
  have hB : Blank ST x D P.U := ⟨hD, ⟨knV, fun q hq => by rw [hq] at obV; cases obV⟩, by rw [al.findClass]; exact e2, kU, u1, by rw [u2]; exact i3, by rw [u2]; exact e5 i3⟩
  have F1 : Found ST "value" "[B" fV P.U := ⟨SBG.found_only al ⟨cfV, kV, iV, gV⟩, stV⟩
  have F2 : Found ST "coder" "B" fC P.U := ⟨SBG.found_only al ⟨cfC, kC, iC, gC⟩, stC⟩
  have hA : Ch b A P.U := ⟨⟨K.1, State.isArrayOf_alike al K.2.1, K.2.2, by omega⟩, hty⟩
  have hS : StaticIs P.U ST "COMPACT_STRINGS" "Z" (.int z) := by
    obtain ⟨cfS, iS, kS, fS, st, cS, t1, t2, t3, t4, t5, t6, t7⟩ := S
    exact StaticIs.there (s := { Z with heap := P.U.heap }) ⟨cfS, iS, kS, fS, st, cS, t1, t2, t3, t4, t5, (fun q => by rw [q] at t6; cases t6), t7⟩ al rfl
  obtain ⟨v, B, X', ⟨⟨hv, E', V', q1, q2, q3, q4, q5, q6, q7, q8, q9, q10, q11⟩, hl, hc, hs⟩, st⟩ := New1.pays x D fV fC b A z (tab_of (moved hZ hw)) hfr hlo m meth c P g ig mk _ X hg hsize hdg hW hn ⟨r1, r2, rfl, hB, F1, F2, hA, hS, hz, l0, l2, hp⟩
  have al' : Z.vm.Alike B.U.vm := hZ.alike.trans X'.warmed.alike
  have hsz : E'.slots.size = D.slots.size := by
    obtain ⟨-, -, -, kB, w1, w2, w3⟩ := q1
    obtain ⟨kB', y1, y2⟩ := al'.2.2 _ _ e3
    rw [q2.2.1] at w1
    cases w1.symm.trans y1
    rw [w3, e5 i3, y2]
  refine ⟨v, B, X', ⟨_, ⟨hv, ?_, ⟨by omega, fun y cy hy hn' => q10 y cy (by simpa using hn') hy, fun y cy hy => ?_⟩, q11, ⟨E', _, q1.1, by rw [q2.2.1]; exact e2, by rw [q2.2.1]; exact e3, by rw [q2.1]; exact obV, fun _ => by rw [hsz]; exact e5 i3⟩,
    ⟨E', cfV, kV, iV, fV, q1.1, gV, stV, by rw [q2.1]; exact knV, by rw [q2.1]; exact obV, by rw [q2.2.1]; exact asV, q3⟩, ⟨E', cfC, kC, iC, fC, q1.1, gC, stC, by rw [q2.1]; exact knV, by rw [q2.1]; exact obV, by rw [q2.2.1]; exact asC, q4⟩,
    ⟨V', ⟨q5.1, State.isArrayOf_alike al'.symm q5.2.1, q5.2.2.1⟩, q6, by rw [← al'.findClass]; exact q7, q8, fun j hj => by have := q9 j hj; rwa [Nat.zero_add] at this⟩, fun O n d w F n1 n2 => ?_⟩, hl, hc, hs⟩, st⟩
  · intro y hy
    simp only [List.mem_cons, List.not_mem_nil, or_false] at hy
    rcases hy with rfl | rfl <;> rfl
  · by_cases q : y = x
    · subst q
      cases hD.symm.trans hy
      exact ⟨E', q1.1, q2.2.1, q2.1, hsz⟩
    · exact ⟨cy, q10 y cy q hy, rfl, rfl, rfl⟩
  · obtain ⟨D3, cf, k, i, f, g1, g2, g3, g4, g5, g6, g7⟩ := F
    cases hD.symm.trans g1
    simp only [RoadKit.slotOf, g2, gV, gC, Option.map_some, Option.getD_some] at n1 n2
    exact ⟨E', cf, k, i, f, q1.1, g2, g3, by rw [q2.1]; exact g4, by rw [q2.1]; exact g5, by rw [q2.2.1]; exact g6, by rw [q2.2.2 f.slot (by simp [n1, n2])]; exact g7⟩
end StrChars.Road
namespace StrChars.Road
open Jvm Sem ClassFile Op Lib Jvm.Stand Jvm.Free Jvm.Free.XT
/-- WHAT COMES BACK, the byte[] as a list of values -/
def QA (Z : State) (x : Addr) (zn : Int32) (cs : List Int32) (h : Heap) (v : Option Value) (h' : Heap) (L : List Loc) : Prop := v = none ∧ (∀ y ∈ L, y.base = x) ∧ RoadKit.Keep h h' [x] ∧ h'.size = h.size + 1 ∧ RoadKit.Exa Z h' x ST ∧ RoadKit.Fld Z h' x ST "value" "[B" (.ref h.size) ∧ RoadKit.Fld Z h' x ST "coder" "B" (.int 0) ∧
  (∃ kb, Z.vm.findClass "[B" = some kb ∧ RoadKit.Arv Z h' h.size kb .byte zn (cs.map fun c => .int (lo8 c)) (.int 0)) ∧
  ∀ (O n d : String) (w : Value), RoadKit.Fld Z h x O n d w → RoadKit.slotOf Z O n d ≠ RoadKit.slotOf Z ST "value" "[B" → RoadKit.slotOf Z O n d ≠ RoadKit.slotOf Z ST "coder" "B" → RoadKit.Fld Z h' x O n d w
/-- **new String(chars) AT A CALL, THE ARRAYS AS LISTS**: the char[] at b holds cs, not empty, no char above 255 -/
theorem backArv {p : Program} {l : Launch} {e : Env} {R : Room} {s : State} {args : Array Value} {below : List Frame} {len W : Nat} {Z : State} {a0 : Array Value} {h : Heap} (hZ : Z.Warmed39 s.vm) (hw : ∀ d ∈ words, d.before a0 Z = true) {kI : Nat} (wi : (Jvm.Cond.instantiable ST kI).before a0 Z = true)
    {x b : Addr} {k : ClassId} {zn z : Int32} {cs : List Int32} {dv v0 c0 : Value} (E : RoadKit.Exa Z h x ST) (V : RoadKit.Fld Z h x ST "value" "[B" v0) (C : RoadKit.Fld Z h x ST "coder" "B" c0) (K : RoadKit.Arv Z h b k .char zn (cs.map Value.int) dv) (S : RoadKit.Sta Z h ST "COMPACT_STRINGS" "Z" (.int z)) (hz : ¬ z = 0)
    (hlen : zn.toNatClampNeg = cs.length) (h0 : 0 < cs.length) (hbig : cs.length ≤ 536870912) (hall : ∀ c ∈ cs, ¬ 255 < c) (hfr : 4 ≤ R.frames) (hlo : W + 65 ≤ R.locals) :
    Back l R p e below s args New1.yN len W (fun P a => a = #[.ref x, .ref b] ∧ P.U.heap = h ∧ P.cells + 1 ≤ R.cells ∧ P.slots + cs.length ≤ R.slots)
      (fun P _ v B => ∃ L, QA Z x zn cs h v B.U.heap L ∧ B.locs = P.locs ++ L ∧ B.cells = P.cells + 1 ∧ B.slots = P.slots + cs.length) := by
  obtain ⟨A, K1, K2, K3, K4, K5, K6⟩ := K
  have e : A.slots.size = cs.length := K3.trans hlen
  have hat : ∀ (i : Nat) (hi : i < cs.length), A.slots[i]? = some (.int cs[i]) := fun i hi => by rw [K5 i (by omega)]; simp [List.getD_eq_getElem?_getD, hi]
  have hcv : ∀ (i : Nat) (hi : i < cs.length), cv A i = cs[i] := fun i hi => by unfold cv; rw [hat i hi]
  have hty : Typed .char A := fun i v hv => by
    have hi : i < A.slots.size := (Array.getElem?_eq_some_iff.mp hv).1
    have q := K5 i hi
    rw [hv] at q
    rw [Option.some.inj q]
    exact K6 i hi
  refine Back.mono (back hZ hw wi E V C K1 hty S hz (by omega) (by omega) (fun i hi => by rw [hcv i (by omega)]; exact hall _ (List.getElem_mem _)) hfr hlo) (fun P a hp => ⟨hp.1, hp.2.1, hp.2.2.1, by rw [e]; exact hp.2.2.2⟩) (fun P a v B hp hq => ?_)
  obtain ⟨L, ⟨q1, q2, q3, q4, q5, q6, q7, ⟨V', v1, v2, v3, v4, v5⟩, q9⟩, hl, hc, hs⟩ := hq
  refine ⟨L, ⟨q1, q2, q3, q4, q5, q6, q7, ⟨V'.cls, v3, V', v1, rfl, by rw [v4, e, hlen], K4, fun i hi => ?_, fun i hi => ?_⟩, q9⟩, hl, hc, by rw [hs, e]⟩
  · have hi' : i < cs.length := by omega
    rw [v5 i (by omega), hcv i hi']; simp [List.getD_eq_getElem?_getD, hi']
  · have hi' : i < cs.length := by omega
    simp only [List.getD_eq_getElem?_getD, List.getElem?_map, List.getElem?_eq_getElem hi', Option.map_some, Option.getD_some]
    exact fits_lo8 _
end StrChars.Road
namespace StrChars.Road
open Jvm Sem ClassFile Op Lib Jvm.Stand Jvm.Free Jvm.Free.XT
/-- WHAT COMES BACK, in the writer's own shape -/
def QV (Z : State) (x : Addr) (N : Int32) (bs : List Int32) (h : Heap) (n0 : Nat) (v : Option Value) (h' : Heap) (L : List Loc) : Prop := v = none ∧ RoadKit.Fr n0 L ∧ RoadKit.Keep h h' [x] ∧ RoadKit.Exa Z h' x ST ∧ RoadKit.Fld Z h' x ST "coder" "B" (.int 0) ∧
  ∃ (t : Addr) (kb : ClassId), n0 ≤ t ∧ h.size ≤ t ∧ ¬ t = x ∧ RoadKit.Fld Z h' x ST "value" "[B" (.ref t) ∧ RoadKit.Arv Z h' t kb .byte N (bs.map Value.int) (.int 0)
/-- **new String(chars) AT A CALL, FOR THE WRITER**: a char[] of n known ints, each 0 to 255 -/
theorem backV {p : Program} {l : Launch} {e : Env} {R : Room} {s : State} {args : Array Value} {below : List Frame} {len W : Nat} {Z : State} {a0 : Array Value} {h : Heap} (hZ : Z.Warmed39 s.vm) (hw : ∀ d ∈ words, d.before a0 Z = true) {kI : Nat} (wi : (Jvm.Cond.instantiable ST kI).before a0 Z = true)
    {x b : Addr} {kC : ClassId} {cs bs : List Int32} {d v0 c0 : Value} {z N : Int32} {n n0 : Nat} (hx0 : n0 ≤ x) (hh0 : n0 ≤ h.size) (E : RoadKit.Exa Z h x ST) (V : RoadKit.Fld Z h x ST "value" "[B" v0) (C : RoadKit.Fld Z h x ST "coder" "B" c0) (K : RoadKit.Arv Z h b kC .char N (cs.map Value.int) d) (S : RoadKit.Sta Z h ST "COMPACT_STRINGS" "Z" (.int z)) (hz : ¬ z = 0)
    (hn : cs.length = n) (hN : N = Int32.ofNat n) (l0 : 0 < n) (l2 : n ≤ 4000) (hp : ∀ c ∈ cs, ¬ c < 0 ∧ ¬ (255 : Int32) < c) (hb : bs = cs.map (fun c => c.toInt8.toInt32)) (hfr : 4 ≤ R.frames) (hlo : W + 65 ≤ R.locals) :
    Back l R p e below s args (⟨"java/lang/String", "<init>", "([C)V"⟩ : MethodName) len W (fun P a => a = #[.ref x, .ref b] ∧ P.U.heap = h ∧ P.cells + 1 ≤ R.cells ∧ P.slots + n ≤ R.slots)
      (fun P _ v B => ∃ L, QV Z x N bs h n0 v B.U.heap L ∧ B.locs = P.locs ++ L ∧ B.cells = P.cells + 1 ∧ B.slots = P.slots + n) := by
  subst hn hN hb
  refine Back.mono (backArv hZ hw wi E V C K S hz (n32 (by omega)) l0 (by omega) (fun c hc => (hp c hc).2) hfr hlo) (fun P a hp => hp) (fun P a v B hp hq => ?_)
  obtain ⟨L, ⟨q1, q2, q3, q4, q5, q6, q7, ⟨kb, v1, v2⟩, q9⟩, hl, hc, hs⟩ := hq
  exact ⟨L, ⟨q1, fun y hy => by rw [q2 y hy]; exact hx0, q3, q5, q7, h.size, kb, hh0, Nat.le_refl _, Nat.ne_of_gt E.lt, q6, by rw [List.map_map]; exact v2⟩, hl, hc, hs⟩
end StrChars.Road
namespace StrChars
open Jvm Sem ClassFile Op Lib Jvm.Stand Jvm.Free.XT Jvm.Free.ALB Jvm.Free.JM Jvm.Free
open Jvm.Lib.Cold (StaticIs)
def hi8 (x : Int32) : Int32 := lo8 (x >>> ((8 : Int32) &&& 31))
/-- what StringUTF16.getChar makes of two bytes -/
def pairCh (u v : Int32) : Int32 := (((u &&& 255) <<< ((0 : Int32) &&& 31)) ||| ((v &&& 255) <<< ((8 : Int32) &&& 31))).toUInt32.toUInt16.toUInt32.toInt32
theorem lo8_and (x : Int32) : (lo8 x &&& 255).toBitVec.toNat = x.toBitVec.toNat % 256 := by
  have h : (lo8 x).toBitVec = (x.toBitVec.signExtend 8).signExtend 32 := by rw [lo8, Int8.toBitVec_toInt32, Int32.toBitVec_toInt8]
  rw [Int32.toBitVec_and, BitVec.toNat_and, h]
  have e : ((x.toBitVec.signExtend 8).signExtend 32).toNat % 256 = x.toBitVec.toNat % 256 := by
    rw [BitVec.toNat_signExtend]
    have hlt := x.toBitVec.isLt
    simp only [BitVec.toNat_setWidth, BitVec.toNat_signExtend]
    split <;> split <;> omega
  rw [← e]
  exact Nat.and_two_pow_sub_one_eq_mod _ 8
theorem pair_says {c : Int32} (h0 : ¬ c < 0) (h1 : ¬ 65535 < c) : pairCh (lo8 c) (hi8 c) = c := by
  rw [Int32.lt_iff_toInt_lt] at h0 h1
  have e0 : (0 : Int32).toInt = 0 := rfl
  have e1 : (65535 : Int32).toInt = 65535 := rfl
  have hc : c.toInt = c.toBitVec.toNat := by
    have := c.toBitVec.isLt
    have e : c.toInt = c.toBitVec.toInt := rfl
    rw [e] at h0 h1
    rw [e]
    rw [BitVec.toInt_eq_toNat_cond] at h0 h1 ⊢
    split at h0 <;> split <;> omega
  have hn : c.toBitVec.toNat < 65536 := by omega
  have a1 := lo8_and c
  have a2 : (hi8 c &&& 255).toBitVec.toNat = c.toBitVec.toNat / 256 := by
    rw [hi8, lo8_and]
    have e : ((8 : Int32) &&& 31) = 8 := by decide
    rw [e, Int32.toBitVec_shiftRight]
    have e2 : ((8 : Int32).toBitVec.smod 32) = 8#32 := by decide
    rw [e2, BitVec.sshiftRight_eq', BitVec.toNat_sshiftRight_of_msb_false (by rw [BitVec.msb_eq_false_iff_two_mul_lt]; omega)]
    show c.toBitVec.toNat >>> 8 % 256 = _
    rw [Nat.shiftRight_eq_div_pow]
    omega
  unfold pairCh
  apply Int32.toBitVec_inj.mp
  apply BitVec.eq_of_toNat_eq
  have f0 : ((0 : Int32) &&& 31) = 0 := by decide
  have f8 : ((8 : Int32) &&& 31) = 8 := by decide
  rw [f0, f8]
  have g : (((lo8 c &&& 255) <<< (0 : Int32)) ||| ((hi8 c &&& 255) <<< (8 : Int32))).toBitVec.toNat = c.toBitVec.toNat := by
    rw [Int32.toBitVec_or, Int32.toBitVec_shiftLeft, Int32.toBitVec_shiftLeft]
    have s0 : ((0 : Int32).toBitVec.smod 32) = 0#32 := by decide
    have s8 : ((8 : Int32).toBitVec.smod 32) = 8#32 := by decide
    rw [s0, s8, BitVec.toNat_or]
    simp only [BitVec.shiftLeft_eq', BitVec.toNat_shiftLeft, a1, a2]
    show (c.toBitVec.toNat % 256) <<< 0 % 2 ^ 32 ||| (c.toBitVec.toNat / 256) <<< 8 % 2 ^ 32 = _
    rw [Nat.shiftLeft_zero, Nat.mod_eq_of_lt (show c.toBitVec.toNat % 256 < 2 ^ 32 by omega), Nat.mod_eq_of_lt (show (c.toBitVec.toNat / 256) <<< 8 < 2 ^ 32 by rw [Nat.shiftLeft_eq]; omega), Nat.or_comm, ← Nat.shiftLeft_add_eq_or_of_lt (by omega), Nat.shiftLeft_eq]
    omega
  show BitVec.toNat (((((lo8 c &&& 255) <<< (0 : Int32)) ||| ((hi8 c &&& 255) <<< (8 : Int32))).toBitVec.setWidth 16).setWidth 32) = _
  rw [BitVec.toNat_setWidth, BitVec.toNat_setWidth, g]
  omega
end StrChars
namespace StrChars
open Jvm Sem ClassFile Op Lib Jvm.Stand Jvm.Free.XT Jvm.Free.ALB Jvm.Free.JM Jvm.Free
open Jvm.Lib.Cold (StaticIs)
/-- the array's cell V codes the n chars f 0 .. f (n - 1) by the coder cd, as the JDK does: coder 1 just where some char is above 255 -/
def Cod (cd : Int32) (n : Nat) (f : Nat → Int32) (V : Cell) : Prop := (cd = 0 ∧ V.slots.size = n ∧ ∀ j, j < n → V.slots[j]? = some (.int (lo8 (f j))) ∧ ¬ 255 < f j) ∨ (cd = 1 ∧ V.slots.size = 2 * n ∧ (∀ j, j < n → V.slots[2 * j]? = some (.int (lo8 (f j))) ∧ V.slots[2 * j + 1]? = some (.int (hi8 (f j)))) ∧ ∃ j, j < n ∧ 255 < f j)
/-- **x is a String of the n chars f 0 .. f (n - 1)**, Latin-1 or UTF-16; its array at t has the cell V -/
def Txt (x t : Addr) (V : Cell) (cd : Int32) (n : Nat) (f : Nat → Int32) (U : State) : Prop := Exact "java/lang/String" x U ∧ Has x "java/lang/String" "value" "[B" (.ref t) U ∧ Has x "java/lang/String" "coder" "B" (.int cd) U ∧ XT.Arr .byte t V U ∧ Cod cd n f V ∧ ∀ j, j < n → ¬ f j < 0 ∧ ¬ 65535 < f j
theorem Txt.mv {x t : Addr} {V : Cell} {cd : Int32} {n : Nat} {f : Nat → Int32} {U U' : State} (h : Txt x t V cd n f U) (hal : U.vm.Alike U'.vm) (hh : U'.heap = U.heap) : Txt x t V cd n f U' := ⟨h.1.mv hal hh, h.2.1.mv hal hh, h.2.2.1.mv hal hh, h.2.2.2.1.mv hal hh, h.2.2.2.2⟩
end StrChars
namespace StrChars.Road
open Jvm Sem ClassFile Op Lib Jvm.Stand Jvm.Free Jvm.Free.XT
open Jvm.Lib.Cold (StaticIs)
theorem consq {a : Array Value} {s : State} {c : Jvm.Cond} {L : List Jvm.Cond} (h0 : c.before a s = true) (h : ∀ w ∈ L, w.before a s = true) : ∀ w ∈ c :: L, w.before a s = true := fun w hw => (List.mem_cons.mp hw).elim (fun e => e ▸ h0) (h w)
/-- the bytes of the chars cs, low before high -/
def wideBytes : List Int32 → List Value
  | [] => []
  | c :: cs => .int (lo8 c) :: .int (hi8 c) :: wideBytes cs
theorem wide_lo (d : Value) : ∀ (cs : List Int32) (j : Nat), j < cs.length → (wideBytes cs).getD (2 * j) d = .int (lo8 (cs.getD j 0))
  | [], j, h => absurd h (Nat.not_lt_zero j)
  | c :: cs, 0, _ => rfl
  | c :: cs, j + 1, h => by
    have q := wide_lo d cs j (by simpa using h)
    rw [show 2 * (j + 1) = 2 * j + 1 + 1 from by omega]
    simpa [wideBytes] using q
theorem wide_hi (d : Value) : ∀ (cs : List Int32) (j : Nat), j < cs.length → (wideBytes cs).getD (2 * j + 1) d = .int (hi8 (cs.getD j 0))
  | [], j, h => absurd h (Nat.not_lt_zero j)
  | c :: cs, 0, _ => rfl
  | c :: cs, j + 1, h => by
    have q := wide_hi d cs j (by simpa using h)
    rw [show 2 * (j + 1) + 1 = 2 * j + 1 + 1 + 1 from by omega]
    simpa [wideBytes] using q
theorem low_at (d : Value) (cs : List Int32) (j : Nat) (h : j < cs.length) : (cs.map fun c => Value.int (lo8 c)).getD j d = .int (lo8 (cs.getD j 0)) := by
  simp [List.getD_eq_getElem?_getD, h]
/-- an array of N2 bytes vs codes the chars cs by the coder cd -/
def CodA (cs : List Int32) (cd N2 : Int32) (vs : List Value) : Prop := (cd = 0 ∧ N2 = Int32.ofNat cs.length ∧ vs = (cs.map fun c => Value.int (lo8 c)) ∧ ∀ c ∈ cs, ¬ 255 < c) ∨ (cd = 1 ∧ N2 = Int32.ofNat (2 * cs.length) ∧ vs = wideBytes cs ∧ ∃ c ∈ cs, 255 < c)
theorem CodA.cod {cs : List Int32} {cd N2 : Int32} {vs : List Value} {V : Cell} (h : CodA cs cd N2 vs) (hn : 2 * cs.length < 2 ^ 31) (hs : V.slots.size = N2.toNatClampNeg) (hv : RoadKit.Has V vs (.int 0)) : Cod cd cs.length (fun j => cs.getD j 0) V := by
  rcases h with ⟨rfl, rfl, rfl, h⟩ | ⟨rfl, rfl, rfl, c, hc, hw⟩
  · rw [n32 (by omega)] at hs
    exact Or.inl ⟨rfl, hs, fun j hj => ⟨by rw [hv j (by omega), low_at _ _ _ hj], by
      have e : cs.getD j 0 = cs[j] := by simp [List.getD_eq_getElem?_getD, hj]
      show ¬ 255 < cs.getD j 0
      rw [e]; exact h _ (List.getElem_mem _)⟩⟩
  · rw [n32 (by omega)] at hs
    obtain ⟨j, hj, rfl⟩ := List.getElem_of_mem hc
    exact Or.inr ⟨rfl, hs, fun j hj => ⟨by rw [hv _ (by omega), wide_lo _ _ _ hj], by rw [hv _ (by omega), wide_hi _ _ _ hj]⟩, j, hj, by
      have e : cs.getD j 0 = cs[j] := by simp [List.getD_eq_getElem?_getD, hj]
      show 255 < cs.getD j 0
      rw [e]; exact hw⟩
/-- an object of exactly java/lang/String, its two fields found: as the laws ask it -/
theorem strObj {Z U : State} {a0 : Array Value} {kI : Nat} (wi : (Jvm.Cond.instantiable ST kI).before a0 Z = true) (al : Z.vm.Alike U.vm) {x : Addr} {v0 c0 : Value} (E : RoadKit.Exa Z U.heap x ST) (V : RoadKit.Fld Z U.heap x ST "value" "[B" v0) (C : RoadKit.Fld Z U.heap x ST "coder" "B" c0) :
    ∃ (D : Cell) (fV fC : Field), Blank ST x D U ∧ Found ST "value" "[B" fV U ∧ Found ST "coder" "B" fC U ∧ D.slots[fV.slot]? = some v0 ∧ D.slots[fC.slot]? = some c0 ∧ RoadKit.slotOf Z ST "value" "[B" = fV.slot ∧ RoadKit.slotOf Z ST "coder" "B" = fC.slot := by
  obtain ⟨D, cfV, kV, iV, fV, hD, gV, stV, knV, obV, asV, slV⟩ := V
  obtain ⟨D', cfC, kC, iC, fC, hD', gC, stC, -, -, asC, slC⟩ := C
  cases hD.symm.trans hD'
  obtain ⟨D2, kD, e1, e2, e3, e4, e5⟩ := E
  cases hD.symm.trans e1
  obtain ⟨c2, k2, i1, i2, i3, -⟩ := Cond.instantiable_spec wi
  cases e2.symm.trans i1
  cases e3.symm.trans i2
  obtain ⟨kU, u1, u2⟩ := al.2.2 _ _ e3
  exact ⟨D, fV, fC, ⟨hD, ⟨knV, fun q hq => by rw [hq] at obV; cases obV⟩, by rw [al.findClass]; exact e2, kU, u1, by rw [u2]; exact i3, by rw [u2]; exact e5 i3⟩, ⟨SBG.found_only al ⟨cfV, kV, iV, gV⟩, stV⟩, ⟨SBG.found_only al ⟨cfC, kC, iC, gC⟩, stC⟩, slV, slC, by simp [RoadKit.slotOf, gV], by simp [RoadKit.slotOf, gC]⟩
theorem sta_is {Z U : State} (al : Z.vm.Alike U.vm) {C n d : String} {v : Value} (S : RoadKit.Sta Z U.heap C n d v) : StaticIs U C n d v := by
  obtain ⟨cfS, iS, kS, fS, st, cS, t1, t2, t3, t4, t5, t6, t7⟩ := S
  exact StaticIs.there (s := { Z with heap := U.heap }) ⟨cfS, iS, kS, fS, st, cS, t1, t2, t3, t4, t5, (fun q => by rw [q] at t6; cases t6), t7⟩ al rfl
end StrChars.Road
namespace StrChars
open Jvm Sem ClassFile Op Lib Jvm.Stand Jvm.Free.XT Jvm.Free.ALB Jvm.Free.JM Jvm.Free
open Jvm.Lib.Cold (StaticIs)
/-- what place i of a byte[]'s cell holds -/
def yv (A : Cell) (i : Nat) : Int32 := match A.slots[i]? with | some (.int x) => x | _ => 0
theorem yv_get {a : Addr} {A : Cell} {U : State} (h : XT.Arr .byte a A U) (ht : Typed .byte A) {i : Nat} (hi : i < A.slots.size) : A.slots[i]? = some (.int (yv A i)) := by
  have e := Array.getElem?_eq_getElem hi
  have f := ht i _ e
  unfold yv; rw [e]
  generalize A.slots[i] = v at f
  cases v <;> simp [fits] at f ⊢
/-- the two arrays are equal, place for place -/
def EqC (A B : Cell) : Prop := A.slots.size = B.slots.size ∧ ∀ i, i < A.slots.size → yv A i = yv B i
/-- a boolean that says whether p -/
def Says01 (q : Prop) (r : Option Value) (s u : State) : Prop := ∃ v : Int32, r = some (.int v) ∧ u.heap = s.heap ∧ ((v = 1 ∧ q) ∨ (v = 0 ∧ ¬ q))
theorem Says01.mv {q : Prop} : ∀ r (U U' V V' : State), U'.heap = U.heap → V.vm.Alike V'.vm → V'.heap = V.heap → Says01 q r U V → Says01 q r U' V' :=
  fun r U U' V V' h1 _ h2 ⟨v, a, b, c⟩ => ⟨v, a, by rw [h1, h2]; exact b, c⟩
namespace LEq
def yN : MethodName := ⟨"java/lang/StringLatin1", "equals", "([B[B)Z"⟩
abbrev yB : ByteArray := jdk_43_method_13_code
theorem d0 : decode yB 0 = .ok (.aload_n 0, 1) := by decide +kernel
theorem d1 : decode yB 1 = .ok (.arraylength, 1) := by decide +kernel
theorem d2 : decode yB 2 = .ok (.aload_n 1, 1) := by decide +kernel
theorem d3 : decode yB 3 = .ok (.arraylength, 1) := by decide +kernel
theorem d4 : decode yB 4 = .ok (.if_icmp (.ne) 30, 3) := by decide +kernel
theorem d7 : decode yB 7 = .ok (.iconst 0, 1) := by decide +kernel
theorem d8 : decode yB 8 = .ok (.istore_n 2, 1) := by decide +kernel
theorem d9 : decode yB 9 = .ok (.iload_n 2, 1) := by decide +kernel
theorem d10 : decode yB 10 = .ok (.aload_n 0, 1) := by decide +kernel
theorem d11 : decode yB 11 = .ok (.arraylength, 1) := by decide +kernel
theorem d12 : decode yB 12 = .ok (.if_icmp (.ge) 20, 3) := by decide +kernel
theorem d15 : decode yB 15 = .ok (.aload_n 0, 1) := by decide +kernel
theorem d16 : decode yB 16 = .ok (.iload_n 2, 1) := by decide +kernel
theorem d17 : decode yB 17 = .ok (.baload, 1) := by decide +kernel
theorem d18 : decode yB 18 = .ok (.aload_n 1, 1) := by decide +kernel
theorem d19 : decode yB 19 = .ok (.iload_n 2, 1) := by decide +kernel
theorem d20 : decode yB 20 = .ok (.baload, 1) := by decide +kernel
theorem d21 : decode yB 21 = .ok (.if_icmp (.eq) 5, 3) := by decide +kernel
theorem d24 : decode yB 24 = .ok (.iconst 0, 1) := by decide +kernel
theorem d25 : decode yB 25 = .ok (.ireturn, 1) := by decide +kernel
theorem d26 : decode yB 26 = .ok (.iinc 2 1, 3) := by decide +kernel
theorem d29 : decode yB 29 = .ok (.goto (-20), 3) := by decide +kernel
theorem d32 : decode yB 32 = .ok (.iconst 1, 1) := by decide +kernel
theorem d33 : decode yB 33 = .ok (.ireturn, 1) := by decide +kernel
theorem d34 : decode yB 34 = .ok (.iconst 0, 1) := by decide +kernel
theorem d35 : decode yB 35 = .ok (.ireturn, 1) := by decide +kernel
def site : List Cond := []
def tab : Cond := tabOf yN yB 3 (some .boolean) site
def P (a : Addr) (A : Cell) (b : Addr) (B : Cell) (args : Array Value) (s : State) : Prop := args = #[.ref a, .ref b] ∧ XT.Arr .byte a A s ∧ Typed .byte A ∧ XT.Arr .byte b B s ∧ Typed .byte B
/-- whether two byte[] are equal, place for place -/
theorem law (l : Launch) (a : Addr) (A : Cell) (b : Addr) (B : Cell) : Law l yN 2 2 0 0 yB 3 (some .boolean) site (P a A b B) (Says01 (EqC A B)) [] 0 0 := by
  refine Law.of_walk (plainFor_of_name (by decide +kernel)) (by decide +kernel) (by decide +kernel) (by decide) (fun _ _ h => by rw [h.1]; rfl) (fun _ U U' hal hh h => ⟨h.1, h.2.1.mv hal hh, h.2.2.1, h.2.2.2.1.mv hal hh, h.2.2.2.2⟩) (fun r U U' V V' h1 hal h2 h => Says01.mv r U U' V V' h1 hal h2 h) ?_
  intro p e s m args below meth c s₁ X0 hexec hbytes hml hret hlk hnm hown hh0 W hP
  obtain ⟨rfl, hA, tA, hB, tB⟩ := hP
  have a31 := hA.2.2.2
  have b31 := hB.2.2.2
  have hA0 := hA.mv X0.warmed.alike hh0
  have hB0 := hB.mv X0.warmed.alike hh0
  have c1 : Steps p.tables e below (s₁.setTop (entryFrame m #[.ref a, .ref b] 3)) (s₁.setTop (mkF m 0 #[.val (.ref a), .val (.ref b), .unset] [])) := entry rfl
  have c2 : Steps p.tables e below (s₁.setTop (entryFrame m #[.ref a, .ref b] 3)) (s₁.setTop (mkF m 4 #[.val (.ref a), .val (.ref b), .unset] [.int (Int32.ofNat B.slots.size), .int (Int32.ofNat A.slots.size)])) := c1.trans (by
    refine XS.aloadN X0.here hexec rfl (hb hbytes d0) rfl rfl ?_
    refine X0.alen hexec hA0 rfl rfl (hb hbytes d1) ?_
    refine XS.aloadN X0.here hexec rfl (hb hbytes d2) rfl rfl ?_
    refine X0.alen hexec hB0 rfl rfl (hb hbytes d3) ?_
    exact Steps.refl _)
  by_cases hs : A.slots.size = B.slots.size
  · have c3 : Steps p.tables e below (s₁.setTop (entryFrame m #[.ref a, .ref b] 3)) (s₁.setTop (mkF m 9 #[.val (.ref a), .val (.ref b), .val (.int 0)] [])) := c2.trans (by
      refine XS.icmpNo X0.here hexec rfl (hb hbytes d4) rfl (ii_ne_f (by rw [hs])) ?_
      refine iconstV X0.here hexec rfl 0 (hb hbytes d7) (by decide) ?_
      refine XS.istoreN X0.here hexec rfl (hb hbytes d8) rfl rfl ?_
      exact Steps.refl _)
    have loop : ∀ (r i : Nat), i + r = A.slots.size → (∀ j, j < i → yv A j = yv B j) → Steps p.tables e below (s₁.setTop (entryFrame m #[.ref a, .ref b] 3)) (s₁.setTop (mkF m 9 #[.val (.ref a), .val (.ref b), .val (.int (Int32.ofNat i))] [])) → ∃ (pc : Nat) (Ls : Array Slot) (v : Int32), (pc = 25 ∨ pc = 33) ∧ ((v = 1 ∧ EqC A B) ∨ (v = 0 ∧ ¬ EqC A B)) ∧ Steps p.tables e below (s₁.setTop (entryFrame m #[.ref a, .ref b] 3)) (s₁.setTop (mkF m pc Ls [.int v])) := by
      intro r
      induction r with
      | zero =>
        intro i hi he cl
        exact ⟨33, _, 1, Or.inr rfl, Or.inl ⟨rfl, hs, fun j hj => he j (by omega)⟩, cl.trans (by
          refine XS.iloadN X0.here hexec rfl (hb hbytes d9) rfl ?_
          refine XS.aloadN X0.here hexec rfl (hb hbytes d10) rfl rfl ?_
          refine X0.alen hexec hA0 rfl rfl (hb hbytes d11) ?_
          refine XS.icmpYes X0.here hexec rfl (pc0 := 12) rfl (hb hbytes d12) rfl (ii_ge_t (nlt32 (by omega) (by omega))) (by decide) rfl ?_
          refine iconstV X0.here hexec rfl 1 (hb hbytes d32) (by decide) ?_
          exact Steps.refl _)⟩
      | succ r ih =>
        intro i hi he cl
        have c4 : Steps p.tables e below (s₁.setTop (entryFrame m #[.ref a, .ref b] 3)) (s₁.setTop (mkF m 21 #[.val (.ref a), .val (.ref b), .val (.int (Int32.ofNat i))] [.int (yv B i), .int (yv A i)])) := cl.trans (by
          refine XS.iloadN X0.here hexec rfl (hb hbytes d9) rfl ?_
          refine XS.aloadN X0.here hexec rfl (hb hbytes d10) rfl rfl ?_
          refine X0.alen hexec hA0 rfl rfl (hb hbytes d11) ?_
          refine XS.icmpNo X0.here hexec rfl (hb hbytes d12) rfl (ii_ge_f (lt32 (by omega) (by omega))) ?_
          refine XS.aloadN X0.here hexec rfl (hb hbytes d15) rfl rfl ?_
          refine XS.iloadN X0.here hexec rfl (hb hbytes d16) rfl ?_
          refine X0.aget hexec hA0 rfl (yv_get hA tA (i := i) (by omega)) rfl rfl (hb hbytes d17) ?_
          refine XS.aloadN X0.here hexec rfl (hb hbytes d18) rfl rfl ?_
          refine XS.iloadN X0.here hexec rfl (hb hbytes d19) rfl ?_
          refine X0.aget hexec hB0 rfl (yv_get hB tB (i := i) (by omega)) rfl rfl (hb hbytes d20) ?_
          exact Steps.refl _)
        by_cases hv : yv A i = yv B i
        · have c5 : Steps p.tables e below (s₁.setTop (entryFrame m #[.ref a, .ref b] 3)) (s₁.setTop (mkF m 9 #[.val (.ref a), .val (.ref b), .val (.int (Int32.ofNat i + 1))] [])) := c4.trans (by
            refine XS.icmpYes X0.here hexec rfl (pc0 := 21) rfl (hb hbytes d21) rfl (ii_eq_t hv) (by decide) rfl ?_
            refine iincV X0.here hexec rfl 1 (hb hbytes d26) (by decide) rfl rfl ?_
            refine XS.goto X0.here hexec rfl (pc0 := 29) rfl (hb hbytes d29) (by decide) rfl ?_
            exact Steps.refl _)
          rw [succ32] at c5
          exact ih (i + 1) (by omega) (fun j hj => by
            by_cases e : j = i
            · rw [e]; exact hv
            · exact he j (by omega)) c5
        · exact ⟨25, _, 0, Or.inl rfl, Or.inr ⟨rfl, fun q => hv (q.2 i (by omega))⟩, c4.trans (by
            refine XS.icmpNo X0.here hexec rfl (hb hbytes d21) rfl (ii_eq_f hv) ?_
            refine iconstV X0.here hexec rfl 0 (hb hbytes d24) (by decide) ?_
            exact Steps.refl _)⟩
    obtain ⟨pc, Ls, v, hpc, hv, cz⟩ := loop A.slots.size 0 (by omega) (fun j hj => absurd hj (Nat.not_lt_zero j)) c3
    have nv : narrow .boolean (.int v) = .int v := by rcases hv with ⟨rfl, -⟩ | ⟨rfl, -⟩ <;> rfl
    rcases hpc with rfl | rfl
    · exact ⟨s₁, some (.int v), _, _, _, X0, rfl, rfl, rfl, (fun h => by cases h), ⟨v, rfl, hh0, hv⟩, fun fs hl => cz.trans (X0.ireturnOut hexec hret nv (Or.inr (Or.inl rfl)) (hb hbytes d25) hl)⟩
    · exact ⟨s₁, some (.int v), _, _, _, X0, rfl, rfl, rfl, (fun h => by cases h), ⟨v, rfl, hh0, hv⟩, fun fs hl => cz.trans (X0.ireturnOut hexec hret nv (Or.inr (Or.inl rfl)) (hb hbytes d33) hl)⟩
  · have c3 : Steps p.tables e below (s₁.setTop (entryFrame m #[.ref a, .ref b] 3)) (s₁.setTop (mkF m 35 #[.val (.ref a), .val (.ref b), .unset] [.int 0])) := c2.trans (by
      refine XS.icmpYes X0.here hexec rfl (pc0 := 4) rfl (hb hbytes d4) rfl (ii_ne_t (ne32 a31 b31 hs)) (by decide) rfl ?_
      refine iconstV X0.here hexec rfl 0 (hb hbytes d34) (by decide) ?_
      exact Steps.refl _)
    exact ⟨s₁, some (.int 0), _, _, _, X0, rfl, rfl, rfl, (fun h => by cases h), ⟨0, rfl, hh0, Or.inr ⟨rfl, fun q => hs q.1⟩⟩, fun fs hl => c3.trans (X0.ireturnOut hexec hret rfl (Or.inr (Or.inl rfl)) (hb hbytes d35) hl)⟩
end LEq
theorem Cod.ty {cd : Int32} {n : Nat} {f : Nat → Int32} {V : Cell} (h : Cod cd n f V) : Typed .byte V := fun i v hv => by
  have hi : i < V.slots.size := (Array.getElem?_eq_some_iff.mp hv).1
  rcases h with ⟨-, k1, k2⟩ | ⟨-, k1, k2, -⟩
  · rw [(k2 i (by omega)).1] at hv; cases hv; exact fits_lo8 _
  · rcases Nat.mod_two_eq_zero_or_one i with e | e
    · obtain ⟨j, rfl⟩ : ∃ j, i = 2 * j := ⟨i / 2, by omega⟩
      rw [(k2 j (by omega)).1] at hv; cases hv; exact fits_lo8 _
    · obtain ⟨j, rfl⟩ : ∃ j, i = 2 * j + 1 := ⟨i / 2, by omega⟩
      rw [(k2 j (by omega)).2] at hv; cases hv; exact fits_lo8 _
/-- the same text -/
def SameT (n : Nat) (f : Nat → Int32) (k : Nat) (g : Nat → Int32) : Prop := n = k ∧ ∀ j, j < n → f j = g j
theorem lo8_inj {x y : Int32} (h0 : ¬ x < 0) (h1 : ¬ 255 < x) (k0 : ¬ y < 0) (k1 : ¬ 255 < y) (h : lo8 x = lo8 y) : x = y := by
  rw [← lo8_mask h0 h1, ← lo8_mask k0 k1, h]
/-- arrays coded by one coder are equal just where the texts are -/
theorem Cod.eqv {cd : Int32} {n k : Nat} {f g : Nat → Int32} {V V' : Cell} (h : Cod cd n f V) (h' : Cod cd k g V') (hf : ∀ j, j < n → ¬ f j < 0 ∧ ¬ 65535 < f j) (hg : ∀ j, j < k → ¬ g j < 0 ∧ ¬ 65535 < g j) : EqC V V' ↔ SameT n f k g := by
  have yvv : ∀ {W : Cell} {i : Nat} {x : Int32}, W.slots[i]? = some (.int x) → yv W i = x := fun q => by unfold yv; rw [q]
  rcases h with ⟨rfl, k1, k2⟩ | ⟨rfl, k1, k2, -⟩
  · rcases h' with ⟨-, m1, m2⟩ | ⟨e, -⟩
    · constructor
      · rintro ⟨e1, e2⟩
        refine ⟨by omega, fun j hj => ?_⟩
        have q := e2 j (by omega)
        rw [yvv (k2 j hj).1, yvv (m2 j (by omega)).1] at q
        exact lo8_inj (hf j hj).1 (k2 j hj).2 (hg j (by omega)).1 (m2 j (by omega)).2 q
      · rintro ⟨rfl, e2⟩
        refine ⟨by omega, fun j hj => ?_⟩
        rw [yvv (k2 j (by omega)).1, yvv (m2 j (by omega)).1, e2 j (by omega)]
    · exact absurd e (by decide)
  · rcases h' with ⟨e, -⟩ | ⟨-, m1, m2, -⟩
    · exact absurd e (by decide)
    · constructor
      · rintro ⟨e1, e2⟩
        refine ⟨by omega, fun j hj => ?_⟩
        have q1 := e2 (2 * j) (by omega)
        have q2 := e2 (2 * j + 1) (by omega)
        rw [yvv (k2 j hj).1, yvv (m2 j (by omega)).1] at q1
        rw [yvv (k2 j hj).2, yvv (m2 j (by omega)).2] at q2
        rw [← pair_says (hf j hj).1 (hf j hj).2, ← pair_says (hg j (by omega)).1 (hg j (by omega)).2, q1, q2]
      · rintro ⟨rfl, e2⟩
        refine ⟨by omega, fun i hi => ?_⟩
        rcases Nat.mod_two_eq_zero_or_one i with e | e
        · obtain ⟨j, rfl⟩ : ∃ j, i = 2 * j := ⟨i / 2, by omega⟩
          rw [yvv (k2 j (by omega)).1, yvv (m2 j (by omega)).1, e2 j (by omega)]
        · obtain ⟨j, rfl⟩ : ∃ j, i = 2 * j + 1 := ⟨i / 2, by omega⟩
          rw [yvv (k2 j (by omega)).2, yvv (m2 j (by omega)).2, e2 j (by omega)]
/-- two codings differ: so do the texts -/
theorem Cod.dif {cd cd' : Int32} {n k : Nat} {f g : Nat → Int32} {V V' : Cell} (h : Cod cd n f V) (h' : Cod cd' k g V') (hne : ¬ cd = cd') : ¬ SameT n f k g := by
  rintro ⟨rfl, e⟩
  rcases h with ⟨rfl, -, k2⟩ | ⟨rfl, -, -, j, hj, hw⟩
  · rcases h' with ⟨rfl, -⟩ | ⟨-, -, -, j, hj, hw⟩
    · exact hne rfl
    · exact (k2 j hj).2 (by rw [e j hj]; exact hw)
  · rcases h' with ⟨-, -, m2⟩ | ⟨rfl, -⟩
    · exact (m2 j hj).2 (by rw [← e j hj]; exact hw)
    · exact hne rfl
/-- an object of exactly C is an instance of C -/
theorem cinst {p : Program} {l : Launch} {e : Env} {R : Room} {s : State} {m : MethodId} {args : Array Value} {below : List Frame} {meth : Method} {c : Code} {T : State} {locs : List Loc} {cells slots : Nat} (X : Stand p l e R s m args below meth c T locs cells slots) (hexec : p.tables.exec = Jvm.exec) {own C : String} {index : Nat} (hown : s.vm.findClass own = some m.cls) (hlink : (Cond.classLink own index C).before args s = true) {a : Addr} (hE : Exact C a T)
    {g : JFrame} (hg : g.method = m) {rest : List Value} (hstack : g.stack = .ref a :: rest) (hdg : decode c.code g.pc = .ok (.instanceof index, 3)) :
    ∃ T', Stand p l e R s m args below meth c T' locs cells slots ∧ T'.heap = T.heap ∧ ∀ target, Steps p.tables e below (T'.setTop { g with pc := g.pc + 3, stack := .int 1 :: rest }) target → Steps p.tables e below (T.setTop g) target := by
  obtain ⟨cB, h1, D, h2, h3, h4⟩ := hE
  have h1' : s.vm.findClass C = some cB := by rw [← X.warmed.alike.findClass]; exact h1
  obtain ⟨vm', X', st⟩ := X.instanceofYes hexec hown hlink h2 h4 h1' (by rw [h3]; exact Jvm.Free.SB.assignable_self _ _) hg hstack hdg
  exact ⟨_, X', rfl, st⟩
theorem cself {p : Program} {l : Launch} {e : Env} {R : Room} {s : State} {m : MethodId} {args : Array Value} {below : List Frame} {meth : Method} {c : Code} {T : State} {locs : List Loc} {cells slots : Nat} (X : Stand p l e R s m args below meth c T locs cells slots) (hexec : p.tables.exec = Jvm.exec) {own C : String} {index : Nat} (hown : s.vm.findClass own = some m.cls) (hlink : (Cond.classLink own index C).before args s = true) {a : Addr} (hE : Exact C a T)
    {g : JFrame} (hg : g.method = m) {rest : List Value} (hstack : g.stack = .ref a :: rest) (hdg : decode c.code g.pc = .ok (.checkcast index, 3)) :
    ∃ T', Stand p l e R s m args below meth c T' locs cells slots ∧ T'.heap = T.heap ∧ ∀ target, Steps p.tables e below (T'.setTop { g with pc := g.pc + 3, stack := .ref a :: rest }) target → Steps p.tables e below (T.setTop g) target := by
  obtain ⟨cB, h1, D, h2, h3, h4⟩ := hE
  have h1' : s.vm.findClass C = some cB := by rw [← X.warmed.alike.findClass]; exact h1
  obtain ⟨vm', X', st⟩ := X.checkcastYes hexec hown hlink h2 h4 h1' (by rw [h3]; exact Jvm.Free.SB.assignable_self _ _) hg hstack hdg
  exact ⟨_, X', rfl, fun t h => st t (by rw [← hstack] at h; exact h)⟩
namespace SEq
def yN : MethodName := ⟨"java/lang/String", "equals", "(Ljava/lang/Object;)Z"⟩
abbrev yB : ByteArray := jdk_42_method_66_code
theorem d0 : decode yB 0 = .ok (.aload_n 0, 1) := by decide +kernel
theorem d1 : decode yB 1 = .ok (.aload_n 1, 1) := by decide +kernel
theorem d2 : decode yB 2 = .ok (.if_acmp (.ne) 5, 3) := by decide +kernel
theorem d5 : decode yB 5 = .ok (.iconst 1, 1) := by decide +kernel
theorem d6 : decode yB 6 = .ok (.ireturn, 1) := by decide +kernel
theorem d7 : decode yB 7 = .ok (.aload_n 1, 1) := by decide +kernel
theorem d8 : decode yB 8 = .ok (.instanceof 10, 3) := by decide +kernel
theorem d11 : decode yB 11 = .ok (.ifCond (.eq) 43, 3) := by decide +kernel
theorem d14 : decode yB 14 = .ok (.aload_n 1, 1) := by decide +kernel
theorem d15 : decode yB 15 = .ok (.checkcast 10, 3) := by decide +kernel
theorem d18 : decode yB 18 = .ok (.astore_n 2, 1) := by decide +kernel
theorem d19 : decode yB 19 = .ok (.getstatic 38, 3) := by decide +kernel
theorem d22 : decode yB 22 = .ok (.ifCond (.eq) 14, 3) := by decide +kernel
theorem d25 : decode yB 25 = .ok (.aload_n 0, 1) := by decide +kernel
theorem d26 : decode yB 26 = .ok (.getfield 15, 3) := by decide +kernel
theorem d29 : decode yB 29 = .ok (.aload_n 2, 1) := by decide +kernel
theorem d30 : decode yB 30 = .ok (.getfield 15, 3) := by decide +kernel
theorem d33 : decode yB 33 = .ok (.if_icmp (.ne) 21, 3) := by decide +kernel
theorem d36 : decode yB 36 = .ok (.aload_n 0, 1) := by decide +kernel
theorem d37 : decode yB 37 = .ok (.getfield 9, 3) := by decide +kernel
theorem d40 : decode yB 40 = .ok (.aload_n 2, 1) := by decide +kernel
theorem d41 : decode yB 41 = .ok (.getfield 9, 3) := by decide +kernel
theorem d44 : decode yB 44 = .ok (.invokestatic 541, 3) := by decide +kernel
theorem d47 : decode yB 47 = .ok (.ifCond (.eq) 7, 3) := by decide +kernel
theorem d50 : decode yB 50 = .ok (.iconst 1, 1) := by decide +kernel
theorem d51 : decode yB 51 = .ok (.goto 4, 3) := by decide +kernel
theorem d54 : decode yB 54 = .ok (.iconst 0, 1) := by decide +kernel
theorem d55 : decode yB 55 = .ok (.ireturn, 1) := by decide +kernel
def site : List Cond := [.classLink "java/lang/String" 10 "java/lang/String", .fieldLink "java/lang/String" 38 "java/lang/String" "COMPACT_STRINGS" "Z", .fieldLink "java/lang/String" 15 "java/lang/String" "coder" "B", .fieldLink "java/lang/String" 9 "java/lang/String" "value" "[B", LEq.tab] ++ staticW "java/lang/String" 541 LEq.yN
def tab : Cond := tabOf yN yB 3 (some .boolean) site
def P (x t : Addr) (V : Cell) (cd : Int32) (n : Nat) (f : Nat → Int32) (y t' : Addr) (V' : Cell) (cd' : Int32) (k : Nat) (g : Nat → Int32) (z : Int32) (args : Array Value) (s : State) : Prop := args = #[.ref x, .ref y] ∧ Txt x t V cd n f s ∧ Txt y t' V' cd' k g s ∧ StaticIs s "java/lang/String" "COMPACT_STRINGS" "Z" (.int z) ∧ ¬ z = 0
/-- equals(Object) of two Strings: whether the texts are the same -/
theorem law (l : Launch) (x t : Addr) (V : Cell) (cd : Int32) (n : Nat) (f : Nat → Int32) (y t' : Addr) (V' : Cell) (cd' : Int32) (k : Nat) (g : Nat → Int32) (z : Int32) : Law l yN 2 1 1 14 yB 3 (some .boolean) site (P x t V cd n f y t' V' cd' k g z) (Says01 (SameT n f k g)) [] 0 0 := by
  refine Law.of_walk (plainFor_of_name (by decide +kernel)) (by decide +kernel) (by decide +kernel) (by decide) (fun _ _ h => by rw [h.1]; rfl) (fun _ U U' hal hh h => ⟨h.1, h.2.1.mv hal hh, h.2.2.1.mv hal hh, h.2.2.2.1.there hal hh, h.2.2.2.2⟩) (fun r U U' V V' h1 hal h2 h => Says01.mv r U U' V V' h1 hal h2 h) ?_
  intro p e s m args below meth c s₁ X0 hexec hbytes hml hret hlk hnm hown hh0 W hP
  obtain ⟨rfl, hx, hy, s1, hz⟩ := hP
  have c1 : Steps p.tables e below (s₁.setTop (entryFrame m #[.ref x, .ref y] 3)) (s₁.setTop (mkF m 2 #[.val (.ref x), .val (.ref y), .unset] [.ref y, .ref x])) := Steps.trans (entry rfl) (by
    show Steps p.tables e below (s₁.setTop (mkF m 0 #[.val (.ref x), .val (.ref y), .unset] [])) _
    refine XS.aloadN X0.here hexec rfl (hb hbytes d0) rfl rfl ?_
    refine XS.aloadN X0.here hexec rfl (hb hbytes d1) rfl rfl ?_
    exact Steps.refl _)
  by_cases hxy : x = y
  · have c2 : Steps p.tables e below (s₁.setTop (entryFrame m #[.ref x, .ref y] 3)) (s₁.setTop (mkF m 6 #[.val (.ref x), .val (.ref y), .unset] [.int 1])) := c1.trans (by
      refine acmpNo X0.here hexec rfl (hb hbytes d2) rfl rfl rfl (by simp [acmp, hxy]) ?_
      refine iconstV X0.here hexec rfl 1 (hb hbytes d5) (by decide) ?_
      exact Steps.refl _)
    subst hxy
    have ec : cd = cd' := by
      obtain ⟨D, fd, a1, a2, a3⟩ := hx.2.2.1
      obtain ⟨D', fd', b1, b2, b3⟩ := hy.2.2.1
      cases a1.symm.trans b1
      obtain ⟨q1, q2, q3, q4⟩ := a2.1
      obtain ⟨r1, r2, r3, r4⟩ := b2.1
      cases q4.symm.trans r4
      cases a3.symm.trans b3; rfl
    have et : t = t' := by
      obtain ⟨D, fd, a1, a2, a3⟩ := hx.2.1
      obtain ⟨D', fd', b1, b2, b3⟩ := hy.2.1
      cases a1.symm.trans b1
      obtain ⟨q1, q2, q3, q4⟩ := a2.1
      obtain ⟨r1, r2, r3, r4⟩ := b2.1
      cases q4.symm.trans r4
      cases a3.symm.trans b3; rfl
    subst ec et
    have ev : V = V' := by cases hx.2.2.2.1.1.symm.trans hy.2.2.2.1.1; rfl
    subst ev
    have hs : SameT n f k g := (Cod.eqv hx.2.2.2.2.1 hy.2.2.2.2.1 hx.2.2.2.2.2 hy.2.2.2.2.2).mp ⟨rfl, fun _ _ => rfl⟩
    exact ⟨s₁, some (.int 1), _, _, _, X0, rfl, rfl, rfl, (fun h => by cases h), ⟨1, rfl, hh0, Or.inl ⟨rfl, hs⟩⟩, fun fs hl => c2.trans (X0.ireturnOut hexec hret rfl (Or.inr (Or.inl rfl)) (hb hbytes d6) hl)⟩
  · have c2 : Steps p.tables e below (s₁.setTop (entryFrame m #[.ref x, .ref y] 3)) (s₁.setTop (mkF m 8 #[.val (.ref x), .val (.ref y), .unset] [.ref y])) := c1.trans (by
      refine acmpYes X0.here hexec rfl (pc0 := 2) rfl (hb hbytes d2) rfl rfl rfl (by simp [acmp, hxy]) (by decide) rfl ?_
      refine XS.aloadN X0.here hexec rfl (hb hbytes d7) rfl rfl ?_
      exact Steps.refl _)
    obtain ⟨T3, X3, q3, st3⟩ := cinst X0 hexec hown (wk W (.classLink "java/lang/String" 10 "java/lang/String")) (hy.mv X0.warmed.alike hh0).1 (g := (mkF m 8 #[.val (.ref x), .val (.ref y), .unset] [.ref y])) rfl (rest := []) rfl (hb hbytes d8)
    have hh3 := q3.trans hh0
    have c4 : Steps p.tables e below (s₁.setTop (entryFrame m #[.ref x, .ref y] 3)) (T3.setTop (mkF m 15 #[.val (.ref x), .val (.ref y), .unset] [.ref y])) := (c2.trans (st3 _ (Steps.refl _))).trans (by
      refine XS.ifNo X3.here hexec rfl (hb hbytes d11) rfl (i0_eq_f (by decide)) ?_
      refine XS.aloadN X3.here hexec rfl (hb hbytes d14) rfl rfl ?_
      exact Steps.refl _)
    obtain ⟨T5, X5, q5, st5⟩ := cself X3 hexec hown (wk W (.classLink "java/lang/String" 10 "java/lang/String")) (hy.mv X3.warmed.alike hh3).1 (g := (mkF m 15 #[.val (.ref x), .val (.ref y), .unset] [.ref y])) rfl (rest := []) rfl (hb hbytes d15)
    have hh5 := q5.trans hh3
    have c6 : Steps p.tables e below (s₁.setTop (entryFrame m #[.ref x, .ref y] 3)) (T5.setTop (mkF m 19 #[.val (.ref x), .val (.ref y), .val (.ref y)] [])) := (c4.trans (st5 _ (Steps.refl _))).trans (by
      refine XS.astoreN X5.here hexec rfl (hb hbytes d18) rfl rfl rfl ?_
      exact Steps.refl _)
    obtain ⟨T7, X7, q7, st7⟩ := X5.sget hexec hown (wk W (.fieldLink "java/lang/String" 38 "java/lang/String" "COMPACT_STRINGS" "Z")) s1 (fun _ _ h => by rw [hh5]; exact h) (g := (mkF m 19 #[.val (.ref x), .val (.ref y), .val (.ref y)] [])) rfl (hb hbytes d19)
    have hh7 := q7.trans hh5
    have c8 : Steps p.tables e below (s₁.setTop (entryFrame m #[.ref x, .ref y] 3)) (T7.setTop (mkF m 26 #[.val (.ref x), .val (.ref y), .val (.ref y)] [.ref x])) := (c6.trans (st7 _ (Steps.refl _))).trans (by
      refine XS.ifNo X7.here hexec rfl (hb hbytes d22) rfl (i0_eq_f hz) ?_
      refine XS.aloadN X7.here hexec rfl (hb hbytes d25) rfl rfl ?_
      exact Steps.refl _)
    obtain ⟨T9, X9, q9, st9⟩ := X7.hget hexec hown (wk W (.fieldLink "java/lang/String" 15 "java/lang/String" "coder" "B")) (hx.mv X7.warmed.alike hh7).2.2.1 (g := (mkF m 26 #[.val (.ref x), .val (.ref y), .val (.ref y)] [.ref x])) rfl (rest := []) rfl (hb hbytes d26)
    have hh9 := q9.trans hh7
    have c10 : Steps p.tables e below (s₁.setTop (entryFrame m #[.ref x, .ref y] 3)) (T9.setTop (mkF m 30 #[.val (.ref x), .val (.ref y), .val (.ref y)] [.ref y, .int cd])) := (c8.trans (st9 _ (Steps.refl _))).trans (by
      refine XS.aloadN X9.here hexec rfl (hb hbytes d29) rfl rfl ?_
      exact Steps.refl _)
    obtain ⟨T11, X11, q11, st11⟩ := X9.hget hexec hown (wk W (.fieldLink "java/lang/String" 15 "java/lang/String" "coder" "B")) (hy.mv X9.warmed.alike hh9).2.2.1 (g := (mkF m 30 #[.val (.ref x), .val (.ref y), .val (.ref y)] [.ref y, .int cd])) rfl (rest := [.int cd]) rfl (hb hbytes d30)
    have hh11 := q11.trans hh9
    have c12 : Steps p.tables e below (s₁.setTop (entryFrame m #[.ref x, .ref y] 3)) (T11.setTop (mkF m 33 #[.val (.ref x), .val (.ref y), .val (.ref y)] [.int cd', .int cd])) := c10.trans (st11 _ (Steps.refl _))
    by_cases hcd : cd = cd'
    · subst hcd
      have c13 : Steps p.tables e below (s₁.setTop (entryFrame m #[.ref x, .ref y] 3)) (T11.setTop (mkF m 37 #[.val (.ref x), .val (.ref y), .val (.ref y)] [.ref x])) := c12.trans (by
        refine XS.icmpNo X11.here hexec rfl (hb hbytes d33) rfl (ii_ne_f rfl) ?_
        refine XS.aloadN X11.here hexec rfl (hb hbytes d36) rfl rfl ?_
        exact Steps.refl _)
      obtain ⟨T14, X14, q14, st14⟩ := X11.hget hexec hown (wk W (.fieldLink "java/lang/String" 9 "java/lang/String" "value" "[B")) (hx.mv X11.warmed.alike hh11).2.1 (g := (mkF m 37 #[.val (.ref x), .val (.ref y), .val (.ref y)] [.ref x])) rfl (rest := []) rfl (hb hbytes d37)
      have hh14 := q14.trans hh11
      have c15 : Steps p.tables e below (s₁.setTop (entryFrame m #[.ref x, .ref y] 3)) (T14.setTop (mkF m 41 #[.val (.ref x), .val (.ref y), .val (.ref y)] [.ref y, .ref t])) := (c13.trans (st14 _ (Steps.refl _))).trans (by
        refine XS.aloadN X14.here hexec rfl (hb hbytes d40) rfl rfl ?_
        exact Steps.refl _)
      obtain ⟨T16, X16, q16, st16⟩ := X14.hget hexec hown (wk W (.fieldLink "java/lang/String" 9 "java/lang/String" "value" "[B")) (hy.mv X14.warmed.alike hh14).2.1 (g := (mkF m 41 #[.val (.ref x), .val (.ref y), .val (.ref y)] [.ref y, .ref t])) rfl (rest := [.ref t]) rfl (hb hbytes d41)
      have hh16 := q16.trans hh14
      have c17 : Steps p.tables e below (s₁.setTop (entryFrame m #[.ref x, .ref y] 3)) (T16.setTop (mkF m 44 #[.val (.ref x), .val (.ref y), .val (.ref y)] [.ref t', .ref t])) := c15.trans (st16 _ (Steps.refl _))
      obtain ⟨v18, T18, X18, E18, g18⟩ := X16.callS hexec (LEq.law l t V t' V') hown (wks W (staticW "java/lang/String" 541 LEq.yN)) (wk W LEq.tab) (W := 0) (Nat.le_of_ble_eq_true rfl) (Nat.le_of_ble_eq_true rfl) (Nat.le_refl _) (Nat.le_refl _) (g := (mkF m 44 #[.val (.ref x), .val (.ref y), .val (.ref y)] [.ref t', .ref t])) rfl (by rw [hml]; rfl) c17 (argsL := [.ref t, .ref t']) (rest := []) rfl rfl (by show 2 * 0 + 0 ≤ _; decide) (hb hbytes d44) (⟨rfl, hx.2.2.2.1.mv X16.warmed.alike hh16, hx.2.2.2.2.1.ty, hy.2.2.2.1.mv X16.warmed.alike hh16, hy.2.2.2.2.1.ty⟩)
      obtain ⟨v, rfl, q18, hv⟩ := E18
      have iff := Cod.eqv hx.2.2.2.2.1 hy.2.2.2.2.1 hx.2.2.2.2.2 hy.2.2.2.2.2
      rcases hv with ⟨rfl, he⟩ | ⟨rfl, he⟩
      · have c19 : Steps p.tables e below (s₁.setTop (entryFrame m #[.ref x, .ref y] 3)) (T18.setTop (mkF m 55 #[.val (.ref x), .val (.ref y), .val (.ref y)] [.int 1])) := Steps.trans g18 (by
          refine XS.ifNo X18.here hexec rfl (hb hbytes d47) rfl (i0_eq_f (by decide)) ?_
          refine iconstV X18.here hexec rfl 1 (hb hbytes d50) (by decide) ?_
          refine XS.goto X18.here hexec rfl (pc0 := 51) rfl (hb hbytes d51) (by decide) rfl ?_
          exact Steps.refl _)
        exact ⟨T18, some (.int 1), _, _, _, X18, rfl, rfl, rfl, (fun h => by cases h), ⟨1, rfl, q18.trans hh16, Or.inl ⟨rfl, iff.mp he⟩⟩, fun fs hl => c19.trans (X18.ireturnOut hexec hret rfl (Or.inr (Or.inl rfl)) (hb hbytes d55) hl)⟩
      · have c19 : Steps p.tables e below (s₁.setTop (entryFrame m #[.ref x, .ref y] 3)) (T18.setTop (mkF m 55 #[.val (.ref x), .val (.ref y), .val (.ref y)] [.int 0])) := Steps.trans g18 (by
          refine XS.ifYes X18.here hexec rfl (pc0 := 47) rfl (hb hbytes d47) rfl (i0_eq_t rfl) (by decide) rfl ?_
          refine iconstV X18.here hexec rfl 0 (hb hbytes d54) (by decide) ?_
          exact Steps.refl _)
        exact ⟨T18, some (.int 0), _, _, _, X18, rfl, rfl, rfl, (fun h => by cases h), ⟨0, rfl, q18.trans hh16, Or.inr ⟨rfl, fun q => he (iff.mpr q)⟩⟩, fun fs hl => c19.trans (X18.ireturnOut hexec hret rfl (Or.inr (Or.inl rfl)) (hb hbytes d55) hl)⟩
    · have c13 : Steps p.tables e below (s₁.setTop (entryFrame m #[.ref x, .ref y] 3)) (T11.setTop (mkF m 55 #[.val (.ref x), .val (.ref y), .val (.ref y)] [.int 0])) := c12.trans (by
        refine XS.icmpYes X11.here hexec rfl (pc0 := 33) rfl (hb hbytes d33) rfl (ii_ne_t hcd) (by decide) rfl ?_
        refine iconstV X11.here hexec rfl 0 (hb hbytes d54) (by decide) ?_
        exact Steps.refl _)
      exact ⟨T11, some (.int 0), _, _, _, X11, rfl, rfl, rfl, (fun h => by cases h), ⟨0, rfl, hh11, Or.inr ⟨rfl, Cod.dif hx.2.2.2.2.1 hy.2.2.2.2.1 hcd⟩⟩, fun fs hl => c13.trans (X11.ireturnOut hexec hret rfl (Or.inr (Or.inl rfl)) (hb hbytes d55) hl)⟩
theorem pays {l : Launch} {R : Room} {p : Program} {e : Env} {below : List Frame} {s : State} {sargs : Array Value} {len W : Nat} (x t : Addr) (V : Cell) (cd : Int32) (n : Nat) (f : Nat → Int32) (y t' : Addr) (V' : Cell) (cd' : Int32) (k : Nat) (g : Nat → Int32) (z : Int32) (htab : tab.before sargs s = true) (hfr : 2 ≤ R.frames) (hlo : W + 28 ≤ R.locals) :
    Back l R p e below s sargs yN len W (fun A₁ a₁ => A₁.cells + 0 ≤ R.cells ∧ A₁.slots + 0 ≤ R.slots ∧ P x t V cd n f y t' V' cd' k g z a₁ A₁.U) (fun A₁ _ v₁ B₁ => Says01 (SameT n f k g) v₁ A₁.U B₁.U ∧ B₁.locs = A₁.locs ++ [] ∧ B₁.cells = A₁.cells + 0 ∧ B₁.slots = A₁.slots + 0) :=
  (law l x t V cd n f y t' V' cd' k g z).pays htab hfr (by omega)
end SEq
end StrChars
namespace StrChars.Road
open Jvm Sem ClassFile Op Lib Jvm.Stand Jvm.Free Jvm.Free.XT
open Jvm.Lib.Cold (StaticIs)
/-- the words of String.equals(Object) -/
abbrev wordsEq : List Jvm.Cond := [.code SEq.yN SEq.yB 3 (some .boolean), .initialized ST, .classLink ST 10 ST, .fieldLink ST 38 ST "COMPACT_STRINGS" "Z", .fieldLink ST 15 ST "coder" "B", .fieldLink ST 9 ST "value" "[B", .methodLink ST 541 LEq.yN, .static LEq.yN, .code LEq.yN LEq.yB 3 (some .boolean), .initialized "java/lang/StringLatin1"]
theorem tabEq_of {a : Array Value} {s : State} (h : ∀ w ∈ wordsEq, w.before a s = true) : SEq.tab.before a s = true := by
  have hl : LEq.tab.before a s = true := unparts (wk h (.code LEq.yN LEq.yB 3 (some .boolean))) (wks h (.initialized LEq.yN.cls :: LEq.site))
  have q := consq hl h
  exact unparts (wk q (.code SEq.yN SEq.yB 3 (some .boolean))) (wks q (.initialized SEq.yN.cls :: SEq.site))
theorem movedEq {Z s : State} {a0 args : Array Value} (hZ : Z.Warmed39 s.vm) (hw : ∀ d ∈ wordsEq, d.before a0 Z = true) : ∀ d ∈ wordsEq, d.before args s = true := fun d hd => by
  have t : ∀ d ∈ wordsEq, (d.onTables && d.keepsFace) = true := by decide +kernel
  exact RoadKit.mv hZ (hw d hd) (t d hd)
/-- the road's facts of a String, as the laws ask it -/
theorem txt_of {Z U : State} {a0 : Array Value} {kI : Nat} (wi : (Jvm.Cond.instantiable ST kI).before a0 Z = true) (al : Z.vm.Alike U.vm) {x t : Addr} {kb : ClassId} {cs : List Int32} {cd N2 : Int32} {vs : List Value} (E : RoadKit.Exa Z U.heap x ST) (V : RoadKit.Fld Z U.heap x ST "value" "[B" (.ref t)) (C : RoadKit.Fld Z U.heap x ST "coder" "B" (.int cd)) (K : RoadKit.Arv Z U.heap t kb .byte N2 vs (.int 0)) (hc : CodA cs cd N2 vs) (hb : ∀ c ∈ cs, ¬ c < 0 ∧ ¬ (65535 : Int32) < c) (l2 : cs.length ≤ 4000) :
    ∃ A, Txt x t A cd cs.length (fun j => cs.getD j 0) U := by
  obtain ⟨A, K1, K2, K3, K4, K5, K6⟩ := K
  have hcod := hc.cod (by omega) K3 K5
  obtain ⟨D, fV, fC, hB, F1, F2, g1, g2, -, -⟩ := strObj wi al E V C
  exact ⟨A, ⟨_, hB.2.2.1, D, hB.1, rfl, by cases q : D.vm <;> first | rfl | exact absurd q (hB.2.1.2 _)⟩, Has.of hB F1 g1, Has.of hB F2 g2, ⟨K1.1, State.isArrayOf_alike al K1.2.1, K1.2.2, by rcases hcod with ⟨-, q, -⟩ | ⟨-, q, -⟩ <;> omega⟩, hcod, fun j hj => by
    have e : cs.getD j 0 = cs[j] := by simp [List.getD_eq_getElem?_getD, hj]
    show ¬ cs.getD j 0 < 0 ∧ ¬ 65535 < cs.getD j 0
    rw [e]; exact hb _ (List.getElem_mem _)⟩
theorem same_list (cs ds : List Int32) : SameT cs.length (fun j => cs.getD j 0) ds.length (fun j => ds.getD j 0) ↔ cs = ds := by
  constructor
  · rintro ⟨e, q⟩
    refine List.ext_getElem e fun j h1 h2 => ?_
    have := q j h1
    simpa [List.getD_eq_getElem?_getD, h1, h2] using this
  · rintro rfl
    exact ⟨rfl, fun _ _ => rfl⟩
/-- **equals(Object) OF TWO SUCH STRINGS**: 1 just where the chars are the same -/
theorem eqW {p : Program} {l : Launch} {e : Env} {R : Room} {s : State} {args : Array Value} {below : List Frame} {len W : Nat} {Z : State} {a0 : Array Value} {h : Heap} (hZ : Z.Warmed39 s.vm) (hw : ∀ d ∈ wordsEq, d.before a0 Z = true) {kI : Nat} (wi : (Jvm.Cond.instantiable ST kI).before a0 Z = true)
    {x t : Addr} {kb : ClassId} {cs : List Int32} {cd N2 : Int32} {vs : List Value} (E : RoadKit.Exa Z h x ST) (V : RoadKit.Fld Z h x ST "value" "[B" (.ref t)) (C : RoadKit.Fld Z h x ST "coder" "B" (.int cd)) (K : RoadKit.Arv Z h t kb .byte N2 vs (.int 0)) (hc : CodA cs cd N2 vs) (hb : ∀ c ∈ cs, ¬ c < 0 ∧ ¬ (65535 : Int32) < c) (l2 : cs.length ≤ 4000)
    {y t' : Addr} {kb' : ClassId} {ds : List Int32} {cd' N2' : Int32} {vs' : List Value} (E' : RoadKit.Exa Z h y ST) (V' : RoadKit.Fld Z h y ST "value" "[B" (.ref t')) (C' : RoadKit.Fld Z h y ST "coder" "B" (.int cd')) (K' : RoadKit.Arv Z h t' kb' .byte N2' vs' (.int 0)) (hc' : CodA ds cd' N2' vs') (hb' : ∀ c ∈ ds, ¬ c < 0 ∧ ¬ (65535 : Int32) < c) (l2' : ds.length ≤ 4000)
    {z : Int32} (S : RoadKit.Sta Z h ST "COMPACT_STRINGS" "Z" (.int z)) (hz : ¬ z = 0) (hfr : 2 ≤ R.frames) (hlo : W + 28 ≤ R.locals) :
    Back l R p e below s args (⟨"java/lang/String", "equals", "(Ljava/lang/Object;)Z"⟩ : MethodName) len W (fun P a => a = #[.ref x, .ref y] ∧ P.U.heap = h ∧ P.cells + 0 ≤ R.cells ∧ P.slots + 0 ≤ R.slots)
      (fun P _ v B => ∃ L, (((v = some (.int 1) ∧ cs = ds) ∨ (v = some (.int 0) ∧ ¬ cs = ds)) ∧ L = [] ∧ B.U.heap = h) ∧ B.locs = P.locs ++ L ∧ B.cells = P.cells + 0 ∧ B.slots = P.slots + 0) := by
  intro m meth c P g ig mk a X hg hsize hdg hW hn hp'
  obtain ⟨rfl, rfl, r1, r2⟩ := hp'
  have al : Z.vm.Alike P.U.vm := hZ.alike.trans X.warmed.alike
  obtain ⟨A, hx⟩ := txt_of wi al E V C K hc hb l2
  obtain ⟨A', hy⟩ := txt_of wi al E' V' C' K' hc' hb' l2'
  obtain ⟨v, B, X', ⟨⟨w, hv, hh, hq⟩, hl, hk, hs⟩, st⟩ := SEq.pays x t A cd cs.length (fun j => cs.getD j 0) y t' A' cd' ds.length (fun j => ds.getD j 0) z (tabEq_of (movedEq hZ hw)) hfr hlo m meth c P g ig mk _ X hg hsize hdg hW hn ⟨r1, r2, rfl, hx, hy, sta_is al S, hz⟩
  refine ⟨v, B, X', ⟨[], ⟨?_, rfl, hh⟩, hl, hk, hs⟩, st⟩
  rcases hq with ⟨rfl, q⟩ | ⟨rfl, q⟩
  · exact Or.inl ⟨hv, (same_list cs ds).mp q⟩
  · exact Or.inr ⟨hv, fun e => q ((same_list cs ds).mpr e)⟩
end StrChars.Road
namespace StrChars.Road
open Jvm Sem ClassFile Op Lib Jvm.Stand Jvm.Free Jvm.Free.XT
open Jvm.Lib.Cold (StaticIs)
/-- what backV says of its String, as the contracts of this text ask it: cs's low bytes, coder 0 -/
theorem codOf {cs : List Int32} {n : Nat} (hn : cs.length = n) (hb : ∀ c ∈ cs, ¬ 255 < c) : CodA cs 0 (Int32.ofNat n) ((cs.map lo8).map Value.int) := Or.inl ⟨rfl, by rw [hn], by simp [List.map_map, Function.comp_def], hb⟩
end StrChars.Road
end Jvm.Pilot.@@N@@

namespace Jvm.Pilot.@@N@@
open Jvm Jvm.ClassFile Sem Op Lib Jvm.Free Jvm.Stand Jvm.LawKit Jvm.RoadKit Bundle Jvm.Pilot.@@N@@.Jvm.D
theorem own_k {Z : State} {a0 : Array Value} (hw : ∀ d ∈ tables_1, d.before a0 Z = true) (i : Nat) {d : Jvm.Cond} (h : tables_1[i]? = some d) : d.before a0 Z = true := hw _ (List.mem_of_getElem? h)
abbrev own_EL : List (String × Nat) := [("java/lang/String", 7)]
section OwnWide
variable {p : Program} {l : Launch} {e : Env} {R : Room} {s : State} {args : Array Value} {below : List Frame} {Z : State} {a0 : Array Value} {EL : List (String × Nat)} {h : Heap} {vm0 : Vm}
/-- a callee whose law keeps the held constants and asks that some cells are none of theirs -/
theorem own_backSQ {y : MethodName} {bytes : ByteArray} {maxL : Nat} {ret : Option FieldType} {rm : Room} {len W : Nat} {as' : Array Value} {Q : Option Value → Heap → List Loc → Prop} {qs : List Addr}
    (hM : MetFree l y (head1 [Jvm.Cond.code y bytes maxL ret] rm) (fun a U => a = as' ∧ Z.Warmed39 U.vm ∧ U.heap = h ∧ CHv Z EL U.vm h ∧ ∀ x ∈ qs, Safe Z EL U.vm h x) (fun _ _ _ _ _ => True) (fun _ U o U' => ∃ v L, o = .returned v ∧ Q v U'.heap L ∧ CHr Z EL U.vm U.heap U'.vm U'.heap ∧ ReturnedEndW U o U' L rm.cells rm.slots))
    (hZ : Z.Warmed39 vm0) (wc : (Jvm.Cond.code y bytes maxL ret).before a0 Z = true) (wz : (Jvm.Cond.initialized y.cls).before a0 Z = true) (hf : rm.frames + 1 ≤ R.frames) (hl : W + (maxL + 11) + rm.locals ≤ R.locals) (hEL : EW Z a0 EL) (H : CHv Z EL vm0 h) (hq : ∀ x ∈ qs, Safe Z EL vm0 h x) (hlt : ∀ x ∈ qs, x < h.size) :
    BackS l R p e below (s.setVm vm0) args y len W (fun A a => a = as' ∧ A.U.heap = h ∧ A.cells + rm.cells ≤ R.cells ∧ A.slots + rm.slots ≤ R.slots)
      (fun A _ v B => ∃ L, Q v B.U.heap L ∧ B.locs = A.locs ++ L ∧ B.cells = A.cells + rm.cells ∧ B.slots = A.slots + rm.slots ∧ CHr Z EL vm0 h B.U.vm B.U.heap) := by
  refine BackS.of_freeW (bytes := bytes) (maxL := maxL) (ret := ret) (E := fun _ first o t L k n => k = rm.cells ∧ n = rm.slots ∧ (∃ v, o = .returned v ∧ Q v t.heap L) ∧ CHr Z EL first.vm first.heap t.vm t.heap) hM hf hl ?_ ?_ (fun _ _ _ _ _ _ _ _ _ => trivial) ?_ ?_
  · intro m meth c A a Y hp
    have hU : Z.Warmed39 A.U.vm := wtrans (s := s.setVm vm0) hZ Y.warmed
    refine ⟨?_, mv hU wc, mv hU wz, hp.2.2.1, hp.2.2.2⟩
    show (Jvm.Cond.and _ .tt).before a A.U = true
    rw [Cond.before_and, mv hU wc]; rfl
  · intro m meth c A a g mk Y hp
    have B := CHv.at Y hZ hEL H
    exact ⟨hp.1, wtrans (s := s.setVm vm0) hZ Y.warmed, hp.2.1, B.1, fun x hx => B.safe (hlt x hx) (hq x hx)⟩
  · rintro a first o t ⟨v, L, h1, h2, h3, h4⟩
    exact ⟨L, _, _, h4, rfl, rfl, ⟨v, h1, h2⟩, h3⟩
  · rintro m meth c A a g mk v t L k n Y hp - - ⟨e1, e2, ⟨v', e3, e4⟩, e5⟩
    cases e3; subst e1 e2
    refine ⟨L, e4, rfl, rfl, rfl, (CHv.at Y hZ hEL H).trans ?_⟩
    rw [← hp.2.1]; exact e5
end OwnWide
theorem and255_chars (x : Int32) : ¬ nar .char ((x &&& (255 : Int32)).toUInt32.toUInt16.toUInt32.toInt32) < 0 ∧ ¬ (255 : Int32) < nar .char ((x &&& (255 : Int32)).toUInt32.toUInt16.toUInt32.toInt32) := by
  have t : ∀ k : Fin 256, ¬ nar .char ((Int32.ofNat k.val).toUInt32.toUInt16.toUInt32.toInt32) < 0 ∧ ¬ (255 : Int32) < nar .char ((Int32.ofNat k.val).toUInt32.toUInt16.toUInt32.toInt32) := by decide +kernel
  have h : (x &&& 255).toBitVec.toNat < 256 := by
    simp only [Int32.toBitVec_and, BitVec.toNat_and]
    exact Nat.lt_succ_of_le Nat.and_le_right
  have e : (x &&& 255) = Int32.ofNat (x &&& 255).toBitVec.toNat := by
    apply Int32.toBitVec_inj.mp
    show _ = BitVec.ofNat 32 _
    rw [BitVec.ofNat_toNat]; simp
  rw [e]
  exact t ⟨_, h⟩
theorem up (cs : List Int32) (h : ∀ c ∈ cs, ¬ c < 0 ∧ ¬ (255 : Int32) < c) : ∀ c ∈ cs, ¬ c < 0 ∧ ¬ (65535 : Int32) < c := fun c hc => ⟨(h c hc).1, fun q => (h c hc).2 (by rw [Int32.lt_iff_toInt_lt] at q ⊢; have e1 : (65535 : Int32).toInt = 65535 := rfl; have e2 : (255 : Int32).toInt = 255 := rfl; omega)⟩
/-- 0 to 255 -/
def own_C (c : Int32) : Prop := ¬ c < 0 ∧ ¬ (255 : Int32) < c
theorem own_nar {c : Int32} (h : own_C c) : nar .char c = c := by
  obtain ⟨h1, h2⟩ := h
  have q := c_i2c c
  have r := rng32 c
  rw [Int32.lt_iff_toInt_lt] at h1 h2
  have e0 : (0 : Int32).toInt = 0 := rfl
  have e1 : (255 : Int32).toInt = 255 := rfl
  show c.toUInt32.toUInt16.toUInt32.toInt32 = c
  rw [← Int32.toInt_inj]
  omega
theorem own_narC {c : Int32} (h : own_C c) : ¬ nar .char c < 0 ∧ ¬ (255 : Int32) < nar .char c := by rw [own_nar h]; exact h
theorem own_and255 (x : Int32) : own_C ((x &&& (255 : Int32)).toUInt32.toUInt16.toUInt32.toInt32) := by
  have a := c_and x (255 : Int32) (by decide)
  have q := c_i2c (x &&& (255 : Int32))
  have e0 : (0 : Int32).toInt = 0 := rfl
  have e1 : (255 : Int32).toInt = 255 := rfl
  unfold own_C
  rw [Int32.lt_iff_toInt_lt, Int32.lt_iff_toInt_lt]
  omega
def own_N (n : Int32) : Prop := n = 0 ∨ n = 1 ∨ n = 2
theorem own_mod3 (x : Int32) : own_N ((x &&& (3 : Int32)) % (3 : Int32)) := by
  have b := c_and x (3 : Int32) (by decide)
  have r := (c_irem (x &&& (3 : Int32)) (3 : Int32) 3 rfl).1 b.1
  have e0 : (0 : Int32).toInt = 0 := rfl
  have e1 : (1 : Int32).toInt = 1 := rfl
  have e2 : (2 : Int32).toInt = 2 := rfl
  unfold own_N
  simp only [← Int32.toInt_inj]
  omega
/-- what the helper's String spells -/
def own_cs (n c0 c1 : Int32) : List Int32 := if n = (0 : Int32) then [] else if n = (1 : Int32) then [c0] else [c0, c1]
theorem own_csC {n c0 c1 : Int32} (h0 : own_C c0) (h1 : own_C c1) : ∀ c ∈ own_cs n c0 c1, ¬ c < 0 ∧ ¬ (255 : Int32) < c := by
  intro c hc
  unfold own_cs at hc
  split at hc
  · cases hc
  · split at hc
    · simp only [List.mem_cons, List.not_mem_nil, or_false] at hc; subst hc; exact h0
    · simp only [List.mem_cons, List.not_mem_nil, or_false] at hc
      rcases hc with rfl | rfl
      · exact h0
      · exact h1
theorem own_csL (n c0 c1 : Int32) : (own_cs n c0 c1).length ≤ 4000 := by
  unfold own_cs
  split
  · exact Nat.zero_le _
  · split
    · exact Nat.le_of_ble_eq_true rfl
    · exact Nat.le_of_ble_eq_true rfl
theorem own_csA {n c0 c1 : Int32} (h0 : own_C c0) (h1 : own_C c1) : StrChars.Road.CodA (own_cs n c0 c1) 0 (Int32.ofNat (own_cs n c0 c1).length) (((own_cs n c0 c1).map (fun c => c.toInt8.toInt32)).map Value.int) := StrChars.Road.codOf (n := (own_cs n c0 c1).length) rfl (fun x hx => (own_csC h0 h1 x hx).2)
theorem own_pn_0 : plainName "java/lang/String" = true := by first | (simp [plainName, overriddenIn]; done) | decide +kernel
theorem d4_0 : decode jdk_42_method_149_code 0 = .ok (.aload_n 0, 1) := by decide +kernel
theorem d4_1 : decode jdk_42_method_149_code 1 = .ok (.invokespecial 1, 3) := by decide +kernel
theorem d4_4 : decode jdk_42_method_149_code 4 = .ok (.iload_n 3, 1) := by decide +kernel
theorem d4_5 : decode jdk_42_method_149_code 5 = .ok (.ifCond .ne 22, 3) := by decide +kernel
theorem d4_8 : decode jdk_42_method_149_code 8 = .ok (.aload_n 0, 1) := by decide +kernel
theorem d4_9 : decode jdk_42_method_149_code 9 = .ok (.ldc 7, 2) := by decide +kernel
theorem d4_11 : decode jdk_42_method_149_code 11 = .ok (.getfield 9, 3) := by decide +kernel
theorem d4_14 : decode jdk_42_method_149_code 14 = .ok (.putfield 9, 3) := by decide +kernel
theorem d4_17 : decode jdk_42_method_149_code 17 = .ok (.aload_n 0, 1) := by decide +kernel
theorem d4_18 : decode jdk_42_method_149_code 18 = .ok (.ldc 7, 2) := by decide +kernel
theorem d4_20 : decode jdk_42_method_149_code 20 = .ok (.getfield 15, 3) := by decide +kernel
theorem d4_23 : decode jdk_42_method_149_code 23 = .ok (.putfield 15, 3) := by decide +kernel
theorem d4_26 : decode jdk_42_method_149_code 26 = .ok (.return_, 1) := by decide +kernel
theorem ef_s4 (m : MethodId) (a1 : Addr) (a2 : Addr) : entryFrame m #[(.ref a1), (.ref a2), (.int (0 : Int32)), (.int (0 : Int32)), .null] 6 = mkF m 0 #[.val (.ref a1), .val (.ref a2), .val (.int (0 : Int32)), .val (.int (0 : Int32)), .val .null, .unset] [] := by first | (simp [entryFrame, mkF, argsToLocals, Value.category]; done) | rfl
def Qs4 (Z : State) (a1 : Addr) (a2 : Addr) (h0 : Heap) (n0 : Nat) (v : Option Value) (h : Heap) (L : List Loc) : Prop := ∃ (tt : Addr) (kk : ClassId), Fr n0 L ∧ Keep h0 h [a1] ∧ Exa Z h a1 "java/lang/String" ∧ Fld Z h a1 "java/lang/String" "coder" "B" (.int (0 : Int32)) ∧ Fld Z h a1 "java/lang/String" "value" "[B" (.ref tt) ∧ Arv Z h tt kk .byte (0 : Int32) [] (.int (0 : Int32)) ∧ (v = none)
set_option maxRecDepth 65536 in
set_option maxHeartbeats 40000000 in
theorem rmS4 (l : Launch) (Z : State) (a0 : Array Value) (hw : ∀ d ∈ tables_1, d.before a0 Z = true) (ws : List Jvm.Cond) (a1 : Addr) (a2 : Addr) (h0 : Heap) (n0 : Nat) (Z0 : n0 ≤ h0.size) (hE : Exa Z h0 a1 "java/lang/String") (hF1 : Fld Z h0 a1 "java/lang/String" "value" "[B" .null) (hF2 : Fld Z h0 a1 "java/lang/String" "coder" "B" (.int (0 : Int32))) (hG1 : n0 ≤ a1) :
    MetFree l (⟨"java/lang/String", "<init>", "([CIILjava/lang/Void;)V"⟩ : MethodName) (head1 (Jvm.Cond.code (⟨"java/lang/String", "<init>", "([CIILjava/lang/Void;)V"⟩ : MethodName) jdk_42_method_149_code 6 none :: ws) ({ frames := 1, cells := 2, slots := 4, locals := 12 } : Room)) (fun a U => a = #[(.ref a1), (.ref a2), (.int (0 : Int32)), (.int (0 : Int32)), .null] ∧ Z.Warmed39 U.vm ∧ U.heap = h0 ∧ CHv Z own_EL U.vm h0 ∧ ∀ x ∈ ([a1] : List Addr), Safe Z own_EL U.vm h0 x) (fun _ _ _ _ _ => True) (fun _ U o U' => ∃ v L, o = .returned v ∧ Qs4 Z a1 a2 h0 n0 v U'.heap L ∧ CHr Z own_EL U.vm U.heap U'.vm U'.heap ∧ ReturnedEndW U o U' L ({ frames := 1, cells := 2, slots := 4, locals := 12 } : Room).cells ({ frames := 1, cells := 2, slots := 4, locals := 12 } : Room).slots) := by
  refine MetFree.of_bodySF (plainFor_of_name own_pn_0) hisR ?_
  intro p e s m args below meth c s₁ Bd hml0 hP hK
  obtain ⟨rfl, hZ, hh, hCH, hQs⟩ := hP
  have hx := Bd.exec
  have hby := Bd.bytes
  have hml : c.maxLocals = 6 := hml0
  have hown : s.vm.findClass "java/lang/String" = some m.cls := findClass_of_methodNamed Bd.named
  have hnm := (name_of_methodNamed Bd.named Bd.method).1
  have X0 : Stand p l e ({ frames := 1, cells := 2, slots := 4, locals := 12 } : Room) (s.setVm s.vm) m #[(.ref a1), (.ref a2), (.int (0 : Int32)), (.int (0 : Int32)), .null] below meth c s₁ [] 0 0 := Stand.of_body Bd
  have e0 : s₁.heap = h0 := by rw [← hh, Bd.state]; rfl
  have N0 := Fr.nil n0
  have pre0 : ∀ t, Steps p.tables e below (s₁.setTop (mkF m 0 #[.val (.ref a1), .val (.ref a2), .val (.int (0 : Int32)), .val (.int (0 : Int32)), .val .null, .unset] [])) t → Steps p.tables e below (s₁.setTop (entryFrame m #[(.ref a1), (.ref a2), (.int (0 : Int32)), (.int (0 : Int32)), .null] 6)) t := fun t k => castTop (ef_s4 m a1 a2) k
  have hZ0 := hZ
  have hown0 := hown
  have hEL : EW Z a0 own_EL := (EW.cons (own_k hw 24 rfl) (by decide) EW.nil)
  have hwS : ∀ a ∈ Bundle.stringAtoms, a.before a0 Z = true := fun d hd => hw d ((by decide +kernel : ∀ d ∈ Bundle.stringAtoms, d ∈ tables_1) d hd)
  have hS0 : s.Since s.vm h0.size := (State.WarmedH.refl s).since _
  have Y0 : h0.size ≤ h0.size := Nat.le_refl _
  have R0 : CHr Z own_EL s.vm h0 s.vm h0 := CHr.refl hCH
  have q_a1 := hQs a1 (List.mem_of_getElem? (i := 0) rfl)
  obtain ⟨T1, X1, e1, st1⟩ := initO X0 hx hZ0 hown0 (own_k hw 21 rfl) (own_k hw 22 rfl) (own_k hw 23 rfl) e0 (g := (mkF m 1 #[.val (.ref a1), .val (.ref a2), .val (.int (0 : Int32)), .val (.int (0 : Int32)), .val .null, .unset] [(.ref a1)])) rfl (by rw [hml]; rfl) rfl (hb hby d4_1) (by decide) (W := 0) (by show 2 * 0 + _ ≤ _; exact Nat.le_of_eq rfl) (by decide)
  obtain ⟨aa2, T2, h2, k2, b2, c2, X2, e2, E2, hS2, hk2, hZ2, hown2, pE2, pC2, pV2, pA2, la2, lb2, hR2, hL2, hne2, st2⟩ := ldcCH X1 hx hZ0 hown0 (own_k hw 24 rfl) hwS e1 hS0 Y0 hEL (List.mem_of_getElem? (i := 0) rfl) R0.1 (vs := []) (z := (0 : Int32)) ⟨by decide, by decide⟩ (by decide) rfl (g := (mkF m 9 #[.val (.ref a1), .val (.ref a2), .val (.int (0 : Int32)), .val (.int (0 : Int32)), .val .null, .unset] [(.ref a1)])) rfl (hb hby d4_9) (n := 0) (by decide) (by decide) (by decide) (by decide)
  have K3 : Keep h0 h2 [a1] := (Keep.refl h0 [a1]).ext E2
  have R4 : CHr Z own_EL s.vm h0 T2.vm h2 := R0.trans (hR2)
  have f5 : Safe Z own_EL T2.vm h2 a1 := (hR2.safe hE.lt q_a1)
  obtain ⟨T6, X6, e6, st6⟩ := getF X2 hx hZ2 hown2 (host := "") (Or.inl (own_k hw 30 rfl)) Via.refl e2 pV2 (g := (mkF m 11 #[.val (.ref a1), .val (.ref a2), .val (.int (0 : Int32)), .val (.int (0 : Int32)), .val .null, .unset] [(.ref aa2), (.ref a1)])) rfl rfl (hb hby d4_11)
  have f7 : Fld Z h2 a1 "java/lang/String" "value" "[B" .null := (hF1.ext E2)
  have f8 : Exa Z h2 a1 "java/lang/String" := (hE.ext E2)
  obtain ⟨T9, h9, X9, e9, W9, st9⟩ := putF X6 hx hZ2 hown2 (host := "") (Or.inl (own_k hw 30 rfl)) Via.refl e6 f7 f8 (Or.inr ⟨(own_k hw 26 rfl), rfl, hnm⟩) (own_k hw 11 rfl) (ty := (.array .byte)) (by decide) rfl rfl (g := (mkF m 14 #[.val (.ref a1), .val (.ref a2), .val (.int (0 : Int32)), .val (.int (0 : Int32)), .val .null, .unset] [(.ref b2), (.ref a1)])) rfl rfl (hb hby d4_14)
  have R10 : CHr Z own_EL s.vm h0 T2.vm h9 := R4.trans (CHr.wr W9 f5 R4.1)
  have N9 := Fr.snoc X9 N0 hG1
  have K11 : Keep h0 h9 [a1] := K3.wr W9 (Or.inl (List.mem_of_getElem? (i := 0) rfl))
  have Fw9 : Fld Z h9 a1 "java/lang/String" "value" "[B" (.ref b2) := f7.same W9
  have st12 := ldcAgain X9 hx hZ2 hown2 (own_k hw 24 rfl) hL2 (g := (mkF m 18 #[.val (.ref a1), .val (.ref a2), .val (.int (0 : Int32)), .val (.int (0 : Int32)), .val .null, .unset] [(.ref a1)])) rfl (hb hby d4_18)
  have f13 : Fld Z h9 aa2 "java/lang/String" "coder" "B" (.int (0 : Int32)) := (pC2.other W9 (Or.inl (Ne.symm (hne2 _ f5).1)))
  obtain ⟨T14, X14, e14, st14⟩ := getF X9 hx hZ2 hown2 (host := "") (Or.inl (own_k hw 31 rfl)) Via.refl e9 f13 (g := (mkF m 20 #[.val (.ref a1), .val (.ref a2), .val (.int (0 : Int32)), .val (.int (0 : Int32)), .val .null, .unset] [(.ref aa2), (.ref a1)])) rfl rfl (hb hby d4_20)
  have f15 : Fld Z h9 a1 "java/lang/String" "coder" "B" (.int (0 : Int32)) := ((hF2.ext E2).other W9 (Or.inr (slot_ne (Or.inr (own_k hw 27 rfl)) (Or.inr (own_k hw 26 rfl)) (by decide) (t := .byte) (t' := (.array .byte)) (by decide) (by decide))))
  have f16 : Exa Z h9 a1 "java/lang/String" := (f8.wr W9)
  have f17 : Safe Z own_EL T2.vm h9 a1 := (Safe.wr W9 f5 R4.1 f5)
  obtain ⟨T18, h18, X18, e18, W18, st18⟩ := putFN X14 hx hZ2 hown2 (own_k hw 31 rfl) Via.refl e14 f15 f16 (Or.inr ⟨(own_k hw 27 rfl), rfl, hnm⟩) (own_k hw 11 rfl) (ty := .byte) (v' := (.int (0 : Int32))) (by decide) rfl rfl (g := (mkF m 23 #[.val (.ref a1), .val (.ref a2), .val (.int (0 : Int32)), .val (.int (0 : Int32)), .val .null, .unset] [(.int (0 : Int32)), (.ref a1)])) rfl rfl (hb hby d4_23)
  have R19 : CHr Z own_EL s.vm h0 T2.vm h18 := R10.trans (CHr.wr W18 f17 R10.1)
  have N18 := Fr.snoc X18 N9 hG1
  have K20 : Keep h0 h18 [a1] := K11.wr W18 (Or.inl (List.mem_of_getElem? (i := 0) rfl))
  have Fw18 : Fld Z h18 a1 "java/lang/String" "coder" "B" (.int (0 : Int32)) := f15.same W18
  have f21 : Exa Z h18 a1 "java/lang/String" := (f16.wr W18)
  have f22 : Fld Z h18 a1 "java/lang/String" "value" "[B" (.ref b2) := (Fw9.other W18 (Or.inr (slot_ne (Or.inr (own_k hw 26 rfl)) (Or.inr (own_k hw 27 rfl)) (by decide) (t := (.array .byte)) (t' := .byte) (by decide) (by decide))))
  have f23 : Arv Z h18 b2 c2 .byte (0 : Int32) [] (.int (0 : Int32)) := ((pA2.other W9 (Ne.symm (hne2 _ f5).2)).other W18 (Ne.symm (hne2 _ f5).2))
  have hRe := R19.trans (CHv.at X18 hZ2 hEL R19.1)
  rw [← e18] at hRe
  rw [← hh] at hRe
  have f24 : k2 ≤ h18.size := (Nat.le_trans (Nat.le_trans hk2 (Keep.of_wr W9).1) (Keep.of_wr W18).1)
  obtain ⟨fs, hr, hrun, hended, hend⟩ := X18.leaveW hS2 (by rw [e18]; exact f24) (v := none) (fun _ => rfl)
  refine ⟨_, _, pre0 _ ?_, hrun, hended, _, _, rfl, ?_, hRe, hend.1, hend.2.1, hend.2.2.1, hend.2.2.2.mono (by decide) (by decide)⟩
  · show Steps p.tables e below (s₁.setTop (mkF m 0 #[.val (.ref a1), .val (.ref a2), .val (.int (0 : Int32)), .val (.int (0 : Int32)), .val .null, .unset] [])) _
    refine XS.aloadN X0.here hx rfl (hb hby d4_0) rfl rfl ?_
    show Steps p.tables e below (s₁.setTop (mkF m 1 #[.val (.ref a1), .val (.ref a2), .val (.int (0 : Int32)), .val (.int (0 : Int32)), .val .null, .unset] [(.ref a1)])) _
    refine st1 _ ?_
    show Steps p.tables e below (T1.setTop (mkF m 4 #[.val (.ref a1), .val (.ref a2), .val (.int (0 : Int32)), .val (.int (0 : Int32)), .val .null, .unset] [])) _
    refine XS.iloadN X1.here hx rfl (hb hby d4_4) rfl ?_
    show Steps p.tables e below (T1.setTop (mkF m 5 #[.val (.ref a1), .val (.ref a2), .val (.int (0 : Int32)), .val (.int (0 : Int32)), .val .null, .unset] [(.int (0 : Int32))])) _
    refine XS.ifNo X1.here hx rfl (hb hby d4_5) rfl (by decide) ?_
    show Steps p.tables e below (T1.setTop (mkF m 8 #[.val (.ref a1), .val (.ref a2), .val (.int (0 : Int32)), .val (.int (0 : Int32)), .val .null, .unset] [])) _
    refine XS.aloadN X1.here hx rfl (hb hby d4_8) rfl rfl ?_
    show Steps p.tables e below (T1.setTop (mkF m 9 #[.val (.ref a1), .val (.ref a2), .val (.int (0 : Int32)), .val (.int (0 : Int32)), .val .null, .unset] [(.ref a1)])) _
    refine st2 _ ?_
    show Steps p.tables e below (T2.setTop (mkF m 11 #[.val (.ref a1), .val (.ref a2), .val (.int (0 : Int32)), .val (.int (0 : Int32)), .val .null, .unset] [(.ref aa2), (.ref a1)])) _
    refine st6 _ ?_
    show Steps p.tables e below (T6.setTop (mkF m 14 #[.val (.ref a1), .val (.ref a2), .val (.int (0 : Int32)), .val (.int (0 : Int32)), .val .null, .unset] [(.ref b2), (.ref a1)])) _
    refine st9 _ ?_
    show Steps p.tables e below (T9.setTop (mkF m 17 #[.val (.ref a1), .val (.ref a2), .val (.int (0 : Int32)), .val (.int (0 : Int32)), .val .null, .unset] [])) _
    refine XS.aloadN X9.here hx rfl (hb hby d4_17) rfl rfl ?_
    show Steps p.tables e below (T9.setTop (mkF m 18 #[.val (.ref a1), .val (.ref a2), .val (.int (0 : Int32)), .val (.int (0 : Int32)), .val .null, .unset] [(.ref a1)])) _
    refine st12 _ ?_
    show Steps p.tables e below (T9.setTop (mkF m 20 #[.val (.ref a1), .val (.ref a2), .val (.int (0 : Int32)), .val (.int (0 : Int32)), .val .null, .unset] [(.ref aa2), (.ref a1)])) _
    refine st14 _ ?_
    show Steps p.tables e below (T14.setTop (mkF m 23 #[.val (.ref a1), .val (.ref a2), .val (.int (0 : Int32)), .val (.int (0 : Int32)), .val .null, .unset] [(.int (0 : Int32)), (.ref a1)])) _
    refine st18 _ ?_
    show Steps p.tables e below (T18.setTop (mkF m 26 #[.val (.ref a1), .val (.ref a2), .val (.int (0 : Int32)), .val (.int (0 : Int32)), .val .null, .unset] [])) _
    exact X18.returnOut hx Bd.returns (hb hby d4_26) hr
  · show Qs4 Z a1 a2 h0 n0 _ T18.heap _
    rw [e18]
    exact ⟨b2, c2, N18, K20, f21, Fw18, f22, f23, rfl⟩
theorem d3_0 : decode jdk_42_method_3_code 0 = .ok (.aload_n 0, 1) := by decide +kernel
theorem d3_1 : decode jdk_42_method_3_code 1 = .ok (.aload_n 1, 1) := by decide +kernel
theorem d3_2 : decode jdk_42_method_3_code 2 = .ok (.iconst 0, 1) := by decide +kernel
theorem d3_3 : decode jdk_42_method_3_code 3 = .ok (.aload_n 1, 1) := by decide +kernel
theorem d3_4 : decode jdk_42_method_3_code 4 = .ok (.arraylength, 1) := by decide +kernel
theorem d3_5 : decode jdk_42_method_3_code 5 = .ok (.aconst_null, 1) := by decide +kernel
theorem d3_6 : decode jdk_42_method_3_code 6 = .ok (.invokespecial 27, 3) := by decide +kernel
theorem own_pd_0 : parseMethodDescriptor "([CIILjava/lang/Void;)V" = some ⟨[(.array .char), .int, .int, (.object "java/lang/Void")], none⟩ := by decide +kernel
theorem d3_9 : decode jdk_42_method_3_code 9 = .ok (.return_, 1) := by decide +kernel
theorem ef_s1 (m : MethodId) (a1 : Addr) (a2 : Addr) : entryFrame m #[(.ref a1), (.ref a2)] 2 = mkF m 0 #[.val (.ref a1), .val (.ref a2)] [] := by first | (simp [entryFrame, mkF, argsToLocals, Value.category]; done) | rfl
def Qs1 (Z : State) (a1 : Addr) (a2 : Addr) (k2 : ClassId) (dv : Value) (h0 : Heap) (n0 : Nat) (v : Option Value) (h : Heap) (L : List Loc) : Prop := ∃ (tt : Addr) (kk : ClassId), Fr n0 L ∧ Keep h0 h [a1] ∧ Exa Z h a1 "java/lang/String" ∧ Fld Z h a1 "java/lang/String" "coder" "B" (.int (0 : Int32)) ∧ Fld Z h a1 "java/lang/String" "value" "[B" (.ref tt) ∧ Arv Z h tt kk .byte (0 : Int32) [] (.int (0 : Int32)) ∧ (v = none)
set_option maxRecDepth 65536 in
set_option maxHeartbeats 40000000 in
theorem rmS1 (l : Launch) (Z : State) (a0 : Array Value) (hw : ∀ d ∈ tables_1, d.before a0 Z = true) (ws : List Jvm.Cond) (a1 : Addr) (a2 : Addr) (k2 : ClassId) (dv : Value) (h0 : Heap) (n0 : Nat) (Z0 : n0 ≤ h0.size) (hE : Exa Z h0 a1 "java/lang/String") (hF1 : Fld Z h0 a1 "java/lang/String" "value" "[B" .null) (hF2 : Fld Z h0 a1 "java/lang/String" "coder" "B" (.int (0 : Int32))) (hG1 : n0 ≤ a1) (hV : Arv Z h0 a2 k2 .char (0 : Int32) [] dv) :
    MetFree l (⟨"java/lang/String", "<init>", "([C)V"⟩ : MethodName) (head1 (Jvm.Cond.code (⟨"java/lang/String", "<init>", "([C)V"⟩ : MethodName) jdk_42_method_3_code 2 none :: ws) ({ frames := 2, cells := 2, slots := 4, locals := 29 } : Room)) (fun a U => a = #[(.ref a1), (.ref a2)] ∧ Z.Warmed39 U.vm ∧ U.heap = h0 ∧ CHv Z own_EL U.vm h0 ∧ ∀ x ∈ ([a1] : List Addr), Safe Z own_EL U.vm h0 x) (fun _ _ _ _ _ => True) (fun _ U o U' => ∃ v L, o = .returned v ∧ Qs1 Z a1 a2 k2 dv h0 n0 v U'.heap L ∧ CHr Z own_EL U.vm U.heap U'.vm U'.heap ∧ ReturnedEndW U o U' L ({ frames := 2, cells := 2, slots := 4, locals := 29 } : Room).cells ({ frames := 2, cells := 2, slots := 4, locals := 29 } : Room).slots) := by
  refine MetFree.of_bodySF (plainFor_of_name own_pn_0) hisR ?_
  intro p e s m args below meth c s₁ Bd hml0 hP hK
  obtain ⟨rfl, hZ, hh, hCH, hQs⟩ := hP
  have hx := Bd.exec
  have hby := Bd.bytes
  have hml : c.maxLocals = 2 := hml0
  have hown : s.vm.findClass "java/lang/String" = some m.cls := findClass_of_methodNamed Bd.named
  have hnm := (name_of_methodNamed Bd.named Bd.method).1
  have X0 : Stand p l e ({ frames := 2, cells := 2, slots := 4, locals := 29 } : Room) (s.setVm s.vm) m #[(.ref a1), (.ref a2)] below meth c s₁ [] 0 0 := Stand.of_body Bd
  have e0 : s₁.heap = h0 := by rw [← hh, Bd.state]; rfl
  have N0 := Fr.nil n0
  have pre0 : ∀ t, Steps p.tables e below (s₁.setTop (mkF m 0 #[.val (.ref a1), .val (.ref a2)] [])) t → Steps p.tables e below (s₁.setTop (entryFrame m #[(.ref a1), (.ref a2)] 2)) t := fun t k => castTop (ef_s1 m a1 a2) k
  have hZ0 := hZ
  have hown0 := hown
  have hEL : EW Z a0 own_EL := (EW.cons (own_k hw 24 rfl) (by decide) EW.nil)
  have hwS : ∀ a ∈ Bundle.stringAtoms, a.before a0 Z = true := fun d hd => hw d ((by decide +kernel : ∀ d ∈ Bundle.stringAtoms, d ∈ tables_1) d hd)
  have hS0 : s.Since s.vm h0.size := (State.WarmedH.refl s).since _
  have Y0 : h0.size ≤ h0.size := Nat.le_refl _
  have R0 : CHr Z own_EL s.vm h0 s.vm h0 := CHr.refl hCH
  have q_a1 := hQs a1 (List.mem_of_getElem? (i := 0) rfl)
  obtain ⟨cl1, Ar1, -, S1, M1, -, -⟩ := id hV
  obtain ⟨_, _, ⟨T2, L2, k2, n2⟩, -, X2, hSq2, hgq2, ⟨Lc2, hQ2, l2, y2, z2, hR2⟩, st2⟩ := X0.specialBackS hx (y := (⟨"java/lang/String", "<init>", "([CIILjava/lang/Void;)V"⟩ : MethodName)) rfl hown0 (mvT hZ0 (own_k hw 17 rfl)) (mvT hZ0 (own_k hw 18 rfl)) (mvT hZ0 (own_k hw 20 rfl)) (by decide) (own_backSQ (W := 0) (rmS4 l Z a0 hw [] a1 a2 h0 n0 Z0 hE hF1 hF2 hG1) hZ0 (own_k hw 20 rfl) (own_k hw 12 rfl) (by decide) (by decide) hEL R0.1 (sfS q_a1 sf0) (allS hE.lt all0)) (g := (mkF m 6 #[.val (.ref a1), .val (.ref a2)] [.null, (.int (0 : Int32)), (.int (0 : Int32)), (.ref a2), (.ref a1)])) rfl (by rw [hml]; rfl) (Steps.refl _) (a := a1) (argsL := [(.ref a2), (.int (0 : Int32)), (.int (0 : Int32)), .null]) (rest := []) (lenOf own_pd_0 rfl) rfl (by show 2 * 0 + _ ≤ _; exact Nat.le_of_eq rfl) (hb hby d3_6) (fun _ _ => ⟨rfl, e0, (by decide : 0 + 2 ≤ _), (by decide : 0 + 4 ≤ _)⟩)
  dsimp only [Pt.U, Pt.locs, Pt.cells, Pt.slots] at X2 l2 y2 z2 st2 hQ2 hSq2 hgq2 hR2
  subst l2 y2 z2
  obtain ⟨Xr2, hS2, hZ2, hown2⟩ := rebS hS0 (k0 := h0.size) (by rw [e0]; exact Y0) X2 hSq2 hgq2 hZ0 hown0
  obtain ⟨tt_2, kk_2, Nq2, Kq2, p2_0, p2_1, p2_2, p2_3, hv2⟩ := hQ2
  have N2 := Fr.app N0 Nq2
  have R3 : CHr Z own_EL s.vm h0 T2.vm T2.heap := R0.trans (hR2)
  have Y2 : T2.heap.size ≤ T2.heap.size := Nat.le_refl _
  have K4 : Keep h0 T2.heap [a1] := (Keep.refl h0 [a1]).trans Kq2 (allS (Or.inl (List.mem_of_getElem? (i := 0) rfl)) all0)
  subst hv2
  have hRe := R3.trans (CHv.at Xr2 hZ2 hEL R3.1)
  rw [← hh] at hRe
  obtain ⟨fs, hr, hrun, hended, hend⟩ := Xr2.leaveW hS2 Y2 (v := none) (fun _ => rfl)
  refine ⟨_, _, pre0 _ ?_, hrun, hended, _, _, rfl, ?_, hRe, hend.1, hend.2.1, hend.2.2.1, hend.2.2.2.mono (by decide) (by decide)⟩
  · show Steps p.tables e below (s₁.setTop (mkF m 0 #[.val (.ref a1), .val (.ref a2)] [])) _
    refine XS.aloadN X0.here hx rfl (hb hby d3_0) rfl rfl ?_
    show Steps p.tables e below (s₁.setTop (mkF m 1 #[.val (.ref a1), .val (.ref a2)] [(.ref a1)])) _
    refine XS.aloadN X0.here hx rfl (hb hby d3_1) rfl rfl ?_
    show Steps p.tables e below (s₁.setTop (mkF m 2 #[.val (.ref a1), .val (.ref a2)] [(.ref a2), (.ref a1)])) _
    refine XS.iconst X0.here hx rfl (hb hby d3_2) ?_
    show Steps p.tables e below (s₁.setTop (mkF m 3 #[.val (.ref a1), .val (.ref a2)] [(.int (0 : Int32)), (.ref a2), (.ref a1)])) _
    refine XS.aloadN X0.here hx rfl (hb hby d3_3) rfl rfl ?_
    show Steps p.tables e below (s₁.setTop (mkF m 4 #[.val (.ref a1), .val (.ref a2)] [(.ref a2), (.int (0 : Int32)), (.ref a2), (.ref a1)])) _
    refine X0.arraylength hx (by rw [e0]; exact Ar1.1) (State.isArrayOf_alike hZ0.alike Ar1.2.1) (g := (mkF m 4 #[.val (.ref a1), .val (.ref a2)] [(.ref a2), (.int (0 : Int32)), (.ref a2), (.ref a1)])) rfl rfl (hb hby d3_4) _ ?_
    rw [len_of S1 M1]
    show Steps p.tables e below (s₁.setTop (mkF m 5 #[.val (.ref a1), .val (.ref a2)] [(.int (0 : Int32)), (.int (0 : Int32)), (.ref a2), (.ref a1)])) _
    refine XS.aconstNull X0.here hx rfl (hb hby d3_5) ?_
    show Steps p.tables e below (s₁.setTop (mkF m 6 #[.val (.ref a1), .val (.ref a2)] [.null, (.int (0 : Int32)), (.int (0 : Int32)), (.ref a2), (.ref a1)])) _
    refine st2.trans ?_
    show Steps p.tables e below (T2.setTop (mkF m 9 #[.val (.ref a1), .val (.ref a2)] [])) _
    exact Xr2.returnOut hx Bd.returns (hb hby d3_9) hr
  · show Qs1 Z a1 a2 k2 dv h0 n0 _ T2.heap _
    exact ⟨tt_2, kk_2, N2, K4, p2_0, p2_1, p2_2, p2_3, rfl⟩
def own_c3 (n a b c : Int32) : List Int32 := if n = (0 : Int32) then [] else if n = (1 : Int32) then [a] else if n = (2 : Int32) then [a, b] else [a, b, c]
theorem own_c3iff {n m a b c x y z : Int32} (hn : n = 0 ∨ n = 1 ∨ n = 2 ∨ n = 3) (hm : m = 0 ∨ m = 1 ∨ m = 2 ∨ m = 3) : own_c3 n a b c = own_c3 m x y z ↔ n = m ∧ (n < 1 ∨ a = x) ∧ (n < 2 ∨ b = y) ∧ (n < 3 ∨ c = z) := by
  rcases hn with rfl | rfl | rfl | rfl <;> rcases hm with rfl | rfl | rfl | rfl <;> simp [own_c3] <;> decide
def own_st (q : Int32) : List Int32 := own_c3 (((q.toUInt32 >>> ((24 : Int32) &&& 31).toUInt32).toInt32) &&& (3 : Int32)) (q &&& (255 : Int32)) (((q.toUInt32 >>> ((8 : Int32) &&& 31).toUInt32).toInt32) &&& (255 : Int32)) (((q.toUInt32 >>> ((16 : Int32) &&& 31).toUInt32).toInt32) &&& (255 : Int32))
theorem own_and3 (x : Int32) : (x &&& (3 : Int32)) = 0 ∨ (x &&& (3 : Int32)) = 1 ∨ (x &&& (3 : Int32)) = 2 ∨ (x &&& (3 : Int32)) = 3 := by
  have b := c_and x (3 : Int32) (by decide)
  have e0 : (0 : Int32).toInt = 0 := rfl
  have e1 : (1 : Int32).toInt = 1 := rfl
  have e2 : (2 : Int32).toInt = 2 := rfl
  have e3 : (3 : Int32).toInt = 3 := rfl
  simp only [← Int32.toInt_inj]
  omega
theorem own_raw (x : Int32) : own_C (x &&& (255 : Int32)) := by have h := own_and255 x; rwa [i2c_mask] at h
theorem own_c3C {n a b c : Int32} (h0 : own_C a) (h1 : own_C b) (h2 : own_C c) : ∀ d ∈ own_c3 n a b c, ¬ d < 0 ∧ ¬ (255 : Int32) < d := by
  intro d hd
  unfold own_c3 at hd
  split at hd
  · cases hd
  split at hd
  · simp only [List.mem_cons, List.not_mem_nil, or_false] at hd; subst hd; exact h0
  split at hd
  · simp only [List.mem_cons, List.not_mem_nil, or_false] at hd
    rcases hd with rfl | rfl
    · exact h0
    · exact h1
  · simp only [List.mem_cons, List.not_mem_nil, or_false] at hd
    rcases hd with rfl | rfl | rfl
    · exact h0
    · exact h1
    · exact h2
theorem own_stC (q : Int32) : ∀ d ∈ own_st q, ¬ d < 0 ∧ ¬ (255 : Int32) < d := own_c3C (own_raw _) (own_raw _) (own_raw _)
theorem own_stL (q : Int32) : (own_st q).length ≤ 4000 := by
  unfold own_st own_c3
  split
  · exact Nat.zero_le _
  split
  · exact Nat.le_of_ble_eq_true rfl
  split
  · exact Nat.le_of_ble_eq_true rfl
  · exact Nat.le_of_ble_eq_true rfl
theorem own_stA (q : Int32) : StrChars.Road.CodA (own_st q) 0 (Int32.ofNat (own_st q).length) (((own_st q).map (fun c => c.toInt8.toInt32)).map Value.int) := StrChars.Road.codOf (n := (own_st q).length) rfl (fun x hx => (own_stC q x hx).2)
theorem own_nm (x : Int32) : nar .char ((x &&& (255 : Int32)).toUInt32.toUInt16.toUInt32.toInt32) = x &&& (255 : Int32) := by rw [own_nar (own_and255 x), i2c_mask]
theorem own_pn_1 : plainName "com/example/wudaokou/wudaokou/model/SensitiveCallIsNamedByPinLaw" = true := by first | (simp [plainName, overriddenIn]; done) | decide +kernel
theorem d2_0 : decode method_4_code 0 = .ok (.iload_n 0, 1) := by decide +kernel
theorem d2_1 : decode method_4_code 1 = .ok (.bipush 24, 2) := by decide +kernel
theorem d2_3 : decode method_4_code 3 = .ok (.iushr, 1) := by decide +kernel
theorem d2_4 : decode method_4_code 4 = .ok (.iconst 3, 1) := by decide +kernel
theorem d2_5 : decode method_4_code 5 = .ok (.iand, 1) := by decide +kernel
theorem d2_6 : decode method_4_code 6 = .ok (.istore_n 1, 1) := by decide +kernel
theorem d2_7 : decode method_4_code 7 = .ok (.iload_n 0, 1) := by decide +kernel
theorem d2_8 : decode method_4_code 8 = .ok (.sipush 255, 3) := by decide +kernel
theorem d2_11 : decode method_4_code 11 = .ok (.iand, 1) := by decide +kernel
theorem d2_12 : decode method_4_code 12 = .ok (.i2c, 1) := by decide +kernel
theorem d2_13 : decode method_4_code 13 = .ok (.istore_n 2, 1) := by decide +kernel
theorem d2_14 : decode method_4_code 14 = .ok (.iload_n 0, 1) := by decide +kernel
theorem d2_15 : decode method_4_code 15 = .ok (.bipush 8, 2) := by decide +kernel
theorem d2_17 : decode method_4_code 17 = .ok (.iushr, 1) := by decide +kernel
theorem d2_18 : decode method_4_code 18 = .ok (.sipush 255, 3) := by decide +kernel
theorem d2_21 : decode method_4_code 21 = .ok (.iand, 1) := by decide +kernel
theorem d2_22 : decode method_4_code 22 = .ok (.i2c, 1) := by decide +kernel
theorem d2_23 : decode method_4_code 23 = .ok (.istore_n 3, 1) := by decide +kernel
theorem d2_24 : decode method_4_code 24 = .ok (.iload_n 0, 1) := by decide +kernel
theorem d2_25 : decode method_4_code 25 = .ok (.bipush 16, 2) := by decide +kernel
theorem d2_27 : decode method_4_code 27 = .ok (.iushr, 1) := by decide +kernel
theorem d2_28 : decode method_4_code 28 = .ok (.sipush 255, 3) := by decide +kernel
theorem d2_31 : decode method_4_code 31 = .ok (.iand, 1) := by decide +kernel
theorem d2_32 : decode method_4_code 32 = .ok (.i2c, 1) := by decide +kernel
theorem d2_33 : decode method_4_code 33 = .ok (.istore 4, 2) := by decide +kernel
theorem d2_35 : decode method_4_code 35 = .ok (.iload_n 1, 1) := by decide +kernel
theorem d2_36 : decode method_4_code 36 = .ok (.ifCond .ne 14, 3) := by decide +kernel
theorem d2_39 : decode method_4_code 39 = .ok (.new 45, 3) := by decide +kernel
theorem d2_42 : decode method_4_code 42 = .ok (.dup, 1) := by decide +kernel
theorem d2_43 : decode method_4_code 43 = .ok (.iconst 0, 1) := by decide +kernel
theorem d2_44 : decode method_4_code 44 = .ok (.newarray .char, 2) := by decide +kernel
theorem d2_46 : decode method_4_code 46 = .ok (.invokespecial 47, 3) := by decide +kernel
theorem own_pd_1 : parseMethodDescriptor "([C)V" = some ⟨[(.array .char)], none⟩ := by decide +kernel
theorem d2_49 : decode method_4_code 49 = .ok (.areturn, 1) := by decide +kernel
theorem d2_50 : decode method_4_code 50 = .ok (.iload_n 1, 1) := by decide +kernel
theorem d2_51 : decode method_4_code 51 = .ok (.iconst 1, 1) := by decide +kernel
theorem d2_52 : decode method_4_code 52 = .ok (.if_icmp .ne 18, 3) := by decide +kernel
theorem d2_55 : decode method_4_code 55 = .ok (.new 45, 3) := by decide +kernel
theorem d2_58 : decode method_4_code 58 = .ok (.dup, 1) := by decide +kernel
theorem d2_59 : decode method_4_code 59 = .ok (.iconst 1, 1) := by decide +kernel
theorem d2_60 : decode method_4_code 60 = .ok (.newarray .char, 2) := by decide +kernel
theorem d2_62 : decode method_4_code 62 = .ok (.dup, 1) := by decide +kernel
theorem d2_63 : decode method_4_code 63 = .ok (.iconst 0, 1) := by decide +kernel
theorem d2_64 : decode method_4_code 64 = .ok (.iload_n 2, 1) := by decide +kernel
theorem d2_65 : decode method_4_code 65 = .ok (.castore, 1) := by decide +kernel
theorem d2_66 : decode method_4_code 66 = .ok (.invokespecial 47, 3) := by decide +kernel
theorem d2_69 : decode method_4_code 69 = .ok (.areturn, 1) := by decide +kernel
theorem d2_70 : decode method_4_code 70 = .ok (.iload_n 1, 1) := by decide +kernel
theorem d2_71 : decode method_4_code 71 = .ok (.iconst 2, 1) := by decide +kernel
theorem d2_72 : decode method_4_code 72 = .ok (.if_icmp .ne 22, 3) := by decide +kernel
theorem d2_75 : decode method_4_code 75 = .ok (.new 45, 3) := by decide +kernel
theorem d2_78 : decode method_4_code 78 = .ok (.dup, 1) := by decide +kernel
theorem d2_79 : decode method_4_code 79 = .ok (.iconst 2, 1) := by decide +kernel
theorem d2_80 : decode method_4_code 80 = .ok (.newarray .char, 2) := by decide +kernel
theorem d2_82 : decode method_4_code 82 = .ok (.dup, 1) := by decide +kernel
theorem d2_83 : decode method_4_code 83 = .ok (.iconst 0, 1) := by decide +kernel
theorem d2_84 : decode method_4_code 84 = .ok (.iload_n 2, 1) := by decide +kernel
theorem d2_85 : decode method_4_code 85 = .ok (.castore, 1) := by decide +kernel
theorem d2_86 : decode method_4_code 86 = .ok (.dup, 1) := by decide +kernel
theorem d2_87 : decode method_4_code 87 = .ok (.iconst 1, 1) := by decide +kernel
theorem d2_88 : decode method_4_code 88 = .ok (.iload_n 3, 1) := by decide +kernel
theorem d2_89 : decode method_4_code 89 = .ok (.castore, 1) := by decide +kernel
theorem d2_90 : decode method_4_code 90 = .ok (.invokespecial 47, 3) := by decide +kernel
theorem d2_93 : decode method_4_code 93 = .ok (.areturn, 1) := by decide +kernel
theorem d2_94 : decode method_4_code 94 = .ok (.new 45, 3) := by decide +kernel
theorem d2_97 : decode method_4_code 97 = .ok (.dup, 1) := by decide +kernel
theorem d2_98 : decode method_4_code 98 = .ok (.iconst 3, 1) := by decide +kernel
theorem d2_99 : decode method_4_code 99 = .ok (.newarray .char, 2) := by decide +kernel
theorem d2_101 : decode method_4_code 101 = .ok (.dup, 1) := by decide +kernel
theorem d2_102 : decode method_4_code 102 = .ok (.iconst 0, 1) := by decide +kernel
theorem d2_103 : decode method_4_code 103 = .ok (.iload_n 2, 1) := by decide +kernel
theorem d2_104 : decode method_4_code 104 = .ok (.castore, 1) := by decide +kernel
theorem d2_105 : decode method_4_code 105 = .ok (.dup, 1) := by decide +kernel
theorem d2_106 : decode method_4_code 106 = .ok (.iconst 1, 1) := by decide +kernel
theorem d2_107 : decode method_4_code 107 = .ok (.iload_n 3, 1) := by decide +kernel
theorem d2_108 : decode method_4_code 108 = .ok (.castore, 1) := by decide +kernel
theorem d2_109 : decode method_4_code 109 = .ok (.dup, 1) := by decide +kernel
theorem d2_110 : decode method_4_code 110 = .ok (.iconst 2, 1) := by decide +kernel
theorem d2_111 : decode method_4_code 111 = .ok (.iload 4, 2) := by decide +kernel
theorem d2_113 : decode method_4_code 113 = .ok (.castore, 1) := by decide +kernel
theorem d2_114 : decode method_4_code 114 = .ok (.invokespecial 47, 3) := by decide +kernel
theorem d2_117 : decode method_4_code 117 = .ok (.areturn, 1) := by decide +kernel
theorem ef_str (m : MethodId) (q0 : Int32) : entryFrame m #[(.int q0)] 5 = mkF m 0 #[.val (.int q0), .unset, .unset, .unset, .unset] [] := by first | (simp [entryFrame, mkF, argsToLocals, Value.category]; done) | rfl
def Qstr (Z : State) (q0 : Int32) (G1 : Int32) (h0 : Heap) (n0 : Nat) (v : Option Value) (h : Heap) (L : List Loc) : Prop := ∃ (bb : Addr) (tt : Addr) (kk : ClassId), Fr n0 L ∧ Keep h0 h [] ∧ h0.size ≤ bb ∧ Exa Z h bb "java/lang/String" ∧ Fld Z h bb "java/lang/String" "coder" "B" (.int (0 : Int32)) ∧ Fld Z h bb "java/lang/String" "value" "[B" (.ref tt) ∧ Arv Z h tt kk .byte (Int32.ofNat (own_st q0).length) (((own_st q0).map (fun c => c.toInt8.toInt32)).map Value.int) (.int (0 : Int32)) ∧ True ∧ (v = some (.ref bb))
set_option maxRecDepth 65536 in
set_option maxHeartbeats 40000000 in
theorem rmStr (l : Launch) (Z : State) (a0 : Array Value) (hw : ∀ d ∈ tables_1, d.before a0 Z = true) (ws : List Jvm.Cond) (q0 : Int32) (G1 : Int32) (h0 : Heap) (n0 : Nat) (Z0 : n0 ≤ h0.size) (hS : Sta Z Z.heap "java/lang/String" "COMPACT_STRINGS" "Z" (.int G1)) (hG : ¬ (G1 = (0 : Int32))) (hO : Old Z n0 h0) :
    MetFree l (⟨"com/example/wudaokou/wudaokou/model/SensitiveCallIsNamedByPinLaw", "str", "(I)Ljava/lang/String;"⟩ : MethodName) (head1 (Jvm.Cond.code (⟨"com/example/wudaokou/wudaokou/model/SensitiveCallIsNamedByPinLaw", "str", "(I)Ljava/lang/String;"⟩ : MethodName) method_4_code 5 (some (.object "java/lang/String")) :: ws) ({ frames := 4, cells := 4, slots := 10, locals := 66 } : Room)) (fun a U => a = #[(.int q0)] ∧ Z.Warmed39 U.vm ∧ U.heap = h0 ∧ CHv Z own_EL U.vm h0 ∧ ∀ x ∈ ([] : List Addr), Safe Z own_EL U.vm h0 x) (fun _ _ _ _ _ => True) (fun _ U o U' => ∃ v L, o = .returned v ∧ Qstr Z q0 G1 h0 n0 v U'.heap L ∧ CHr Z own_EL U.vm U.heap U'.vm U'.heap ∧ ReturnedEndW U o U' L ({ frames := 4, cells := 4, slots := 10, locals := 66 } : Room).cells ({ frames := 4, cells := 4, slots := 10, locals := 66 } : Room).slots) := by
  refine MetFree.of_bodySF (plainFor_of_name own_pn_1) hisR ?_
  intro p e s m args below meth c s₁ Bd hml0 hP hK
  obtain ⟨rfl, hZ, hh, hCH, hQs⟩ := hP
  have hx := Bd.exec
  have hby := Bd.bytes
  have hml : c.maxLocals = 5 := hml0
  have hown : s.vm.findClass "com/example/wudaokou/wudaokou/model/SensitiveCallIsNamedByPinLaw" = some m.cls := findClass_of_methodNamed Bd.named
  have hnm := (name_of_methodNamed Bd.named Bd.method).1
  have X0 : Stand p l e ({ frames := 4, cells := 4, slots := 10, locals := 66 } : Room) (s.setVm s.vm) m #[(.int q0)] below meth c s₁ [] 0 0 := Stand.of_body Bd
  have e0 : s₁.heap = h0 := by rw [← hh, Bd.state]; rfl
  have N0 := Fr.nil n0
  have pre0 : ∀ t, Steps p.tables e below (s₁.setTop (mkF m 0 #[.val (.int q0), .unset, .unset, .unset, .unset] [])) t → Steps p.tables e below (s₁.setTop (entryFrame m #[(.int q0)] 5)) t := fun t k => castTop (ef_str m q0) k
  have hZ0 := hZ
  have hown0 := hown
  have hEL : EW Z a0 own_EL := (EW.cons (own_k hw 24 rfl) (by decide) EW.nil)
  have hwS : ∀ a ∈ Bundle.stringAtoms, a.before a0 Z = true := fun d hd => hw d ((by decide +kernel : ∀ d ∈ Bundle.stringAtoms, d ∈ tables_1) d hd)
  have hS0 : s.Since s.vm h0.size := (State.WarmedH.refl s).since _
  have Y0 : h0.size ≤ h0.size := Nat.le_refl _
  have R0 : CHr Z own_EL s.vm h0 s.vm h0 := CHr.refl hCH
  have pre1 : ∀ t, Steps p.tables e below (s₁.setTop (mkF m 36 #[.val (.int q0), .val (.int (((q0.toUInt32 >>> ((24 : Int32) &&& 31).toUInt32).toInt32) &&& (3 : Int32))), .val (.int ((q0 &&& (255 : Int32)).toUInt32.toUInt16.toUInt32.toInt32)), .val (.int ((((q0.toUInt32 >>> ((8 : Int32) &&& 31).toUInt32).toInt32) &&& (255 : Int32)).toUInt32.toUInt16.toUInt32.toInt32)), .val (.int ((((q0.toUInt32 >>> ((16 : Int32) &&& 31).toUInt32).toInt32) &&& (255 : Int32)).toUInt32.toUInt16.toUInt32.toInt32))] [(.int (((q0.toUInt32 >>> ((24 : Int32) &&& 31).toUInt32).toInt32) &&& (3 : Int32)))])) t → Steps p.tables e below (s₁.setTop (entryFrame m #[(.int q0)] 5)) t := fun t kt => pre0 t (by
    show Steps p.tables e below (s₁.setTop (mkF m 0 #[.val (.int q0), .unset, .unset, .unset, .unset] [])) _
    refine XS.iloadN X0.here hx rfl (hb hby d2_0) rfl ?_
    show Steps p.tables e below (s₁.setTop (mkF m 1 #[.val (.int q0), .unset, .unset, .unset, .unset] [(.int q0)])) _
    refine XS.bipush X0.here hx rfl (hb hby d2_1) ?_
    show Steps p.tables e below (s₁.setTop (mkF m 3 #[.val (.int q0), .unset, .unset, .unset, .unset] [(.int (24 : Int32)), (.int q0)])) _
    refine XS.iushr X0.here hx rfl (hb hby d2_3) rfl ?_
    show Steps p.tables e below (s₁.setTop (mkF m 4 #[.val (.int q0), .unset, .unset, .unset, .unset] [(.int ((q0.toUInt32 >>> ((24 : Int32) &&& 31).toUInt32).toInt32))])) _
    refine XS.iconst X0.here hx rfl (hb hby d2_4) ?_
    show Steps p.tables e below (s₁.setTop (mkF m 5 #[.val (.int q0), .unset, .unset, .unset, .unset] [(.int (3 : Int32)), (.int ((q0.toUInt32 >>> ((24 : Int32) &&& 31).toUInt32).toInt32))])) _
    refine XS.iand X0.here hx rfl (hb hby d2_5) rfl ?_
    show Steps p.tables e below (s₁.setTop (mkF m 6 #[.val (.int q0), .unset, .unset, .unset, .unset] [(.int (((q0.toUInt32 >>> ((24 : Int32) &&& 31).toUInt32).toInt32) &&& (3 : Int32)))])) _
    refine XS.istoreN X0.here hx rfl (hb hby d2_6) rfl (l' := #[.val (.int q0), .val (.int (((q0.toUInt32 >>> ((24 : Int32) &&& 31).toUInt32).toInt32) &&& (3 : Int32))), .unset, .unset, .unset]) rfl ?_
    show Steps p.tables e below (s₁.setTop (mkF m 7 #[.val (.int q0), .val (.int (((q0.toUInt32 >>> ((24 : Int32) &&& 31).toUInt32).toInt32) &&& (3 : Int32))), .unset, .unset, .unset] [])) _
    refine XS.iloadN X0.here hx rfl (hb hby d2_7) rfl ?_
    show Steps p.tables e below (s₁.setTop (mkF m 8 #[.val (.int q0), .val (.int (((q0.toUInt32 >>> ((24 : Int32) &&& 31).toUInt32).toInt32) &&& (3 : Int32))), .unset, .unset, .unset] [(.int q0)])) _
    refine XS.sipush X0.here hx rfl (hb hby d2_8) ?_
    show Steps p.tables e below (s₁.setTop (mkF m 11 #[.val (.int q0), .val (.int (((q0.toUInt32 >>> ((24 : Int32) &&& 31).toUInt32).toInt32) &&& (3 : Int32))), .unset, .unset, .unset] [(.int (255 : Int32)), (.int q0)])) _
    refine XS.iand X0.here hx rfl (hb hby d2_11) rfl ?_
    show Steps p.tables e below (s₁.setTop (mkF m 12 #[.val (.int q0), .val (.int (((q0.toUInt32 >>> ((24 : Int32) &&& 31).toUInt32).toInt32) &&& (3 : Int32))), .unset, .unset, .unset] [(.int (q0 &&& (255 : Int32)))])) _
    refine XS.i2c X0.here hx rfl (hb hby d2_12) rfl ?_
    show Steps p.tables e below (s₁.setTop (mkF m 13 #[.val (.int q0), .val (.int (((q0.toUInt32 >>> ((24 : Int32) &&& 31).toUInt32).toInt32) &&& (3 : Int32))), .unset, .unset, .unset] [(.int ((q0 &&& (255 : Int32)).toUInt32.toUInt16.toUInt32.toInt32))])) _
    refine XS.istoreN X0.here hx rfl (hb hby d2_13) rfl (l' := #[.val (.int q0), .val (.int (((q0.toUInt32 >>> ((24 : Int32) &&& 31).toUInt32).toInt32) &&& (3 : Int32))), .val (.int ((q0 &&& (255 : Int32)).toUInt32.toUInt16.toUInt32.toInt32)), .unset, .unset]) rfl ?_
    show Steps p.tables e below (s₁.setTop (mkF m 14 #[.val (.int q0), .val (.int (((q0.toUInt32 >>> ((24 : Int32) &&& 31).toUInt32).toInt32) &&& (3 : Int32))), .val (.int ((q0 &&& (255 : Int32)).toUInt32.toUInt16.toUInt32.toInt32)), .unset, .unset] [])) _
    refine XS.iloadN X0.here hx rfl (hb hby d2_14) rfl ?_
    show Steps p.tables e below (s₁.setTop (mkF m 15 #[.val (.int q0), .val (.int (((q0.toUInt32 >>> ((24 : Int32) &&& 31).toUInt32).toInt32) &&& (3 : Int32))), .val (.int ((q0 &&& (255 : Int32)).toUInt32.toUInt16.toUInt32.toInt32)), .unset, .unset] [(.int q0)])) _
    refine XS.bipush X0.here hx rfl (hb hby d2_15) ?_
    show Steps p.tables e below (s₁.setTop (mkF m 17 #[.val (.int q0), .val (.int (((q0.toUInt32 >>> ((24 : Int32) &&& 31).toUInt32).toInt32) &&& (3 : Int32))), .val (.int ((q0 &&& (255 : Int32)).toUInt32.toUInt16.toUInt32.toInt32)), .unset, .unset] [(.int (8 : Int32)), (.int q0)])) _
    refine XS.iushr X0.here hx rfl (hb hby d2_17) rfl ?_
    show Steps p.tables e below (s₁.setTop (mkF m 18 #[.val (.int q0), .val (.int (((q0.toUInt32 >>> ((24 : Int32) &&& 31).toUInt32).toInt32) &&& (3 : Int32))), .val (.int ((q0 &&& (255 : Int32)).toUInt32.toUInt16.toUInt32.toInt32)), .unset, .unset] [(.int ((q0.toUInt32 >>> ((8 : Int32) &&& 31).toUInt32).toInt32))])) _
    refine XS.sipush X0.here hx rfl (hb hby d2_18) ?_
    show Steps p.tables e below (s₁.setTop (mkF m 21 #[.val (.int q0), .val (.int (((q0.toUInt32 >>> ((24 : Int32) &&& 31).toUInt32).toInt32) &&& (3 : Int32))), .val (.int ((q0 &&& (255 : Int32)).toUInt32.toUInt16.toUInt32.toInt32)), .unset, .unset] [(.int (255 : Int32)), (.int ((q0.toUInt32 >>> ((8 : Int32) &&& 31).toUInt32).toInt32))])) _
    refine XS.iand X0.here hx rfl (hb hby d2_21) rfl ?_
    show Steps p.tables e below (s₁.setTop (mkF m 22 #[.val (.int q0), .val (.int (((q0.toUInt32 >>> ((24 : Int32) &&& 31).toUInt32).toInt32) &&& (3 : Int32))), .val (.int ((q0 &&& (255 : Int32)).toUInt32.toUInt16.toUInt32.toInt32)), .unset, .unset] [(.int (((q0.toUInt32 >>> ((8 : Int32) &&& 31).toUInt32).toInt32) &&& (255 : Int32)))])) _
    refine XS.i2c X0.here hx rfl (hb hby d2_22) rfl ?_
    show Steps p.tables e below (s₁.setTop (mkF m 23 #[.val (.int q0), .val (.int (((q0.toUInt32 >>> ((24 : Int32) &&& 31).toUInt32).toInt32) &&& (3 : Int32))), .val (.int ((q0 &&& (255 : Int32)).toUInt32.toUInt16.toUInt32.toInt32)), .unset, .unset] [(.int ((((q0.toUInt32 >>> ((8 : Int32) &&& 31).toUInt32).toInt32) &&& (255 : Int32)).toUInt32.toUInt16.toUInt32.toInt32))])) _
    refine XS.istoreN X0.here hx rfl (hb hby d2_23) rfl (l' := #[.val (.int q0), .val (.int (((q0.toUInt32 >>> ((24 : Int32) &&& 31).toUInt32).toInt32) &&& (3 : Int32))), .val (.int ((q0 &&& (255 : Int32)).toUInt32.toUInt16.toUInt32.toInt32)), .val (.int ((((q0.toUInt32 >>> ((8 : Int32) &&& 31).toUInt32).toInt32) &&& (255 : Int32)).toUInt32.toUInt16.toUInt32.toInt32)), .unset]) rfl ?_
    show Steps p.tables e below (s₁.setTop (mkF m 24 #[.val (.int q0), .val (.int (((q0.toUInt32 >>> ((24 : Int32) &&& 31).toUInt32).toInt32) &&& (3 : Int32))), .val (.int ((q0 &&& (255 : Int32)).toUInt32.toUInt16.toUInt32.toInt32)), .val (.int ((((q0.toUInt32 >>> ((8 : Int32) &&& 31).toUInt32).toInt32) &&& (255 : Int32)).toUInt32.toUInt16.toUInt32.toInt32)), .unset] [])) _
    refine XS.iloadN X0.here hx rfl (hb hby d2_24) rfl ?_
    show Steps p.tables e below (s₁.setTop (mkF m 25 #[.val (.int q0), .val (.int (((q0.toUInt32 >>> ((24 : Int32) &&& 31).toUInt32).toInt32) &&& (3 : Int32))), .val (.int ((q0 &&& (255 : Int32)).toUInt32.toUInt16.toUInt32.toInt32)), .val (.int ((((q0.toUInt32 >>> ((8 : Int32) &&& 31).toUInt32).toInt32) &&& (255 : Int32)).toUInt32.toUInt16.toUInt32.toInt32)), .unset] [(.int q0)])) _
    refine XS.bipush X0.here hx rfl (hb hby d2_25) ?_
    show Steps p.tables e below (s₁.setTop (mkF m 27 #[.val (.int q0), .val (.int (((q0.toUInt32 >>> ((24 : Int32) &&& 31).toUInt32).toInt32) &&& (3 : Int32))), .val (.int ((q0 &&& (255 : Int32)).toUInt32.toUInt16.toUInt32.toInt32)), .val (.int ((((q0.toUInt32 >>> ((8 : Int32) &&& 31).toUInt32).toInt32) &&& (255 : Int32)).toUInt32.toUInt16.toUInt32.toInt32)), .unset] [(.int (16 : Int32)), (.int q0)])) _
    refine XS.iushr X0.here hx rfl (hb hby d2_27) rfl ?_
    show Steps p.tables e below (s₁.setTop (mkF m 28 #[.val (.int q0), .val (.int (((q0.toUInt32 >>> ((24 : Int32) &&& 31).toUInt32).toInt32) &&& (3 : Int32))), .val (.int ((q0 &&& (255 : Int32)).toUInt32.toUInt16.toUInt32.toInt32)), .val (.int ((((q0.toUInt32 >>> ((8 : Int32) &&& 31).toUInt32).toInt32) &&& (255 : Int32)).toUInt32.toUInt16.toUInt32.toInt32)), .unset] [(.int ((q0.toUInt32 >>> ((16 : Int32) &&& 31).toUInt32).toInt32))])) _
    refine XS.sipush X0.here hx rfl (hb hby d2_28) ?_
    show Steps p.tables e below (s₁.setTop (mkF m 31 #[.val (.int q0), .val (.int (((q0.toUInt32 >>> ((24 : Int32) &&& 31).toUInt32).toInt32) &&& (3 : Int32))), .val (.int ((q0 &&& (255 : Int32)).toUInt32.toUInt16.toUInt32.toInt32)), .val (.int ((((q0.toUInt32 >>> ((8 : Int32) &&& 31).toUInt32).toInt32) &&& (255 : Int32)).toUInt32.toUInt16.toUInt32.toInt32)), .unset] [(.int (255 : Int32)), (.int ((q0.toUInt32 >>> ((16 : Int32) &&& 31).toUInt32).toInt32))])) _
    refine XS.iand X0.here hx rfl (hb hby d2_31) rfl ?_
    show Steps p.tables e below (s₁.setTop (mkF m 32 #[.val (.int q0), .val (.int (((q0.toUInt32 >>> ((24 : Int32) &&& 31).toUInt32).toInt32) &&& (3 : Int32))), .val (.int ((q0 &&& (255 : Int32)).toUInt32.toUInt16.toUInt32.toInt32)), .val (.int ((((q0.toUInt32 >>> ((8 : Int32) &&& 31).toUInt32).toInt32) &&& (255 : Int32)).toUInt32.toUInt16.toUInt32.toInt32)), .unset] [(.int (((q0.toUInt32 >>> ((16 : Int32) &&& 31).toUInt32).toInt32) &&& (255 : Int32)))])) _
    refine XS.i2c X0.here hx rfl (hb hby d2_32) rfl ?_
    show Steps p.tables e below (s₁.setTop (mkF m 33 #[.val (.int q0), .val (.int (((q0.toUInt32 >>> ((24 : Int32) &&& 31).toUInt32).toInt32) &&& (3 : Int32))), .val (.int ((q0 &&& (255 : Int32)).toUInt32.toUInt16.toUInt32.toInt32)), .val (.int ((((q0.toUInt32 >>> ((8 : Int32) &&& 31).toUInt32).toInt32) &&& (255 : Int32)).toUInt32.toUInt16.toUInt32.toInt32)), .unset] [(.int ((((q0.toUInt32 >>> ((16 : Int32) &&& 31).toUInt32).toInt32) &&& (255 : Int32)).toUInt32.toUInt16.toUInt32.toInt32))])) _
    refine XS.istore X0.here hx rfl (hb hby d2_33) rfl (l' := #[.val (.int q0), .val (.int (((q0.toUInt32 >>> ((24 : Int32) &&& 31).toUInt32).toInt32) &&& (3 : Int32))), .val (.int ((q0 &&& (255 : Int32)).toUInt32.toUInt16.toUInt32.toInt32)), .val (.int ((((q0.toUInt32 >>> ((8 : Int32) &&& 31).toUInt32).toInt32) &&& (255 : Int32)).toUInt32.toUInt16.toUInt32.toInt32)), .val (.int ((((q0.toUInt32 >>> ((16 : Int32) &&& 31).toUInt32).toInt32) &&& (255 : Int32)).toUInt32.toUInt16.toUInt32.toInt32))]) rfl ?_
    show Steps p.tables e below (s₁.setTop (mkF m 35 #[.val (.int q0), .val (.int (((q0.toUInt32 >>> ((24 : Int32) &&& 31).toUInt32).toInt32) &&& (3 : Int32))), .val (.int ((q0 &&& (255 : Int32)).toUInt32.toUInt16.toUInt32.toInt32)), .val (.int ((((q0.toUInt32 >>> ((8 : Int32) &&& 31).toUInt32).toInt32) &&& (255 : Int32)).toUInt32.toUInt16.toUInt32.toInt32)), .val (.int ((((q0.toUInt32 >>> ((16 : Int32) &&& 31).toUInt32).toInt32) &&& (255 : Int32)).toUInt32.toUInt16.toUInt32.toInt32))] [])) _
    refine XS.iloadN X0.here hx rfl (hb hby d2_35) rfl ?_
    exact kt)
  by_cases hcx2 : (((q0.toUInt32 >>> ((24 : Int32) &&& 31).toUInt32).toInt32) &&& (3 : Int32)) = (0 : Int32)
  · skip
    obtain ⟨T3, h3, X3, e3, E3, A3, D3, -, st3⟩ := newO X0 hx hZ0 hown0 (own_k hw 10 rfl) (own_k hw 11 rfl) (own_k hw 12 rfl) e0 (g := (mkF m 39 #[.val (.int q0), .val (.int (((q0.toUInt32 >>> ((24 : Int32) &&& 31).toUInt32).toInt32) &&& (3 : Int32))), .val (.int ((q0 &&& (255 : Int32)).toUInt32.toUInt16.toUInt32.toInt32)), .val (.int ((((q0.toUInt32 >>> ((8 : Int32) &&& 31).toUInt32).toInt32) &&& (255 : Int32)).toUInt32.toUInt16.toUInt32.toInt32)), .val (.int ((((q0.toUInt32 >>> ((16 : Int32) &&& 31).toUInt32).toInt32) &&& (255 : Int32)).toUInt32.toUInt16.toUInt32.toInt32))] [])) rfl (hb hby d2_39) (by decide) (by decide)
    obtain ⟨b3, g3⟩ : ∃ z, z = h0.size := ⟨_, rfl⟩
    rw [← g3] at A3 D3 st3
    have g_b3 : n0 ≤ b3 := Nat.le_trans Z0 (Nat.le_of_eq g3.symm)
    have q_b3 : Safe Z own_EL s.vm h0 b3 := Safe.new (Nat.le_of_eq g3.symm)
    have sz_b3 : h0.size ≤ b3 := Nat.le_trans (Keep.refl h0 []).1 (Nat.le_of_eq g3.symm)
    have K4 : Keep h0 h3 [] := (Keep.refl h0 []).ext E3
    have R5 : CHr Z own_EL s.vm h0 s.vm h3 := R0.trans (CHr.ext E3 R0.1)
    have F3_value : Fld Z h3 b3 "java/lang/String" "value" "[B" .null := D3 (Or.inr (own_k hw 26 rfl)) (ty := (.array .byte)) (by decide)
    have F3_coder : Fld Z h3 b3 "java/lang/String" "coder" "B" (.int (0 : Int32)) := D3 (Or.inr (own_k hw 27 rfl)) (ty := .byte) (by decide)
    obtain ⟨T6, h6, k6, X6, e6, E6, A6, st6⟩ := newP X3 hx hZ0 (own_k hw 13 rfl) e3 (g := (mkF m 44 #[.val (.int q0), .val (.int (((q0.toUInt32 >>> ((24 : Int32) &&& 31).toUInt32).toInt32) &&& (3 : Int32))), .val (.int ((q0 &&& (255 : Int32)).toUInt32.toUInt16.toUInt32.toInt32)), .val (.int ((((q0.toUInt32 >>> ((8 : Int32) &&& 31).toUInt32).toInt32) &&& (255 : Int32)).toUInt32.toUInt16.toUInt32.toInt32)), .val (.int ((((q0.toUInt32 >>> ((16 : Int32) &&& 31).toUInt32).toInt32) &&& (255 : Int32)).toUInt32.toUInt16.toUInt32.toInt32))] [(.int (0 : Int32)), (.ref b3), (.ref b3)])) rfl (hb hby d2_44) rfl (by decide) (cap := 0) (by decide) (by decide) (by decide) (by decide)
    obtain ⟨b6, g6⟩ : ∃ z, z = h3.size := ⟨_, rfl⟩
    rw [← g6] at A6 st6
    have f7 : n0 ≤ h3.size := (Nat.le_trans Z0 E3.1)
    have g_b6 : n0 ≤ b6 := Nat.le_trans f7 (Nat.le_of_eq g6.symm)
    have q_b6 : Safe Z own_EL s.vm h3 b6 := Safe.new (Nat.le_of_eq g6.symm)
    have sz_b6 : h0.size ≤ b6 := Nat.le_trans K4.1 (Nat.le_of_eq g6.symm)
    have K8 : Keep h0 h6 [] := K4.ext E6
    have R9 : CHr Z own_EL s.vm h0 s.vm h6 := R5.trans (CHr.ext E6 R5.1)
    have V6 : Arv Z h6 b6 k6 .char (0 : Int32) [] (.int (0 : Int32)) := Arv.new A6 (by decide)
    have f11 : Exa Z h6 b3 "java/lang/String" := (A3.ext E6)
    have f12 : Fld Z h6 b3 "java/lang/String" "value" "[B" .null := (F3_value.ext E6)
    have f13 : Fld Z h6 b3 "java/lang/String" "coder" "B" (.int (0 : Int32)) := (F3_coder.ext E6)
    have f14 : Safe Z own_EL s.vm h6 b3 := (Safe.ext E6 R5.1 (Safe.ext E3 R0.1 q_b3))
    have f15 : n0 ≤ h6.size := (Nat.le_trans f7 E6.1)
    obtain ⟨_, _, ⟨T10, L10, k10, n10⟩, -, X10, hSq10, hgq10, ⟨Lc10, hQ10, l10, y10, z10, hR10⟩, st10⟩ := X6.specialBackS hx (y := (⟨"java/lang/String", "<init>", "([C)V"⟩ : MethodName)) rfl hown0 (mvT hZ0 (own_k hw 14 rfl)) (mvT hZ0 (own_k hw 15 rfl)) (mvT hZ0 (own_k hw 16 rfl)) (by decide) (own_backSQ (W := 1) (rmS1 l Z a0 hw [] b3 b6 k6 (.int (0 : Int32)) h6 n0 f15 f11 f12 f13 g_b3 V6) hZ0 (own_k hw 16 rfl) (own_k hw 12 rfl) (by decide) (by decide) hEL R9.1 (sfS f14 sf0) (allS f11.lt all0)) (g := (mkF m 46 #[.val (.int q0), .val (.int (((q0.toUInt32 >>> ((24 : Int32) &&& 31).toUInt32).toInt32) &&& (3 : Int32))), .val (.int ((q0 &&& (255 : Int32)).toUInt32.toUInt16.toUInt32.toInt32)), .val (.int ((((q0.toUInt32 >>> ((8 : Int32) &&& 31).toUInt32).toInt32) &&& (255 : Int32)).toUInt32.toUInt16.toUInt32.toInt32)), .val (.int ((((q0.toUInt32 >>> ((16 : Int32) &&& 31).toUInt32).toInt32) &&& (255 : Int32)).toUInt32.toUInt16.toUInt32.toInt32))] [(.ref b6), (.ref b3), (.ref b3)])) rfl (by rw [hml]; rfl) (Steps.refl _) (a := b3) (argsL := [(.ref b6)]) (rest := [(.ref b3)]) (lenOf own_pd_1 rfl) rfl (by show 2 * 0 + _ ≤ _; exact Nat.le_of_eq rfl) (hb hby d2_46) (fun _ _ => ⟨rfl, e6, (by decide : 2 + 2 ≤ _), (by decide : 4 + 4 ≤ _)⟩)
    dsimp only [Pt.U, Pt.locs, Pt.cells, Pt.slots] at X10 l10 y10 z10 st10 hQ10 hSq10 hgq10 hR10
    subst l10 y10 z10
    have f16 : h0.size ≤ h6.size := (Nat.le_trans (Nat.le_trans Y0 E3.1) E6.1)
    obtain ⟨Xr10, hS10, hZ10, hown10⟩ := rebS hS0 (k0 := h0.size) (by rw [e6]; exact f16) X10 hSq10 hgq10 hZ0 hown0
    obtain ⟨tt_10, kk_10, Nq10, Kq10, p10_0, p10_1, p10_2, p10_3, hv10⟩ := hQ10
    have N10 := Fr.app N0 Nq10
    have R17 : CHr Z own_EL s.vm h0 T10.vm T10.heap := R9.trans (hR10)
    have Y10 : T10.heap.size ≤ T10.heap.size := Nat.le_refl _
    have K18 : Keep h0 T10.heap [] := K8.trans Kq10 (allS (Or.inr sz_b3) all0)
    subst hv10
    have hcs : own_st q0 = [] := by unfold own_st own_c3; rw [if_pos hcx2]
    have hRe := R17.trans (CHv.at Xr10 hZ10 hEL R17.1)
    rw [← hh] at hRe
    obtain ⟨fs, hr, hrun, hended, hend⟩ := Xr10.leaveW hS10 Y10 (v := (some (.ref b3))) (fun h => by rw [Bd.returns] at h; cases h)
    refine ⟨_, _, pre1 _ ?_, hrun, hended, _, _, rfl, ?_, hRe, hend.1, hend.2.1, hend.2.2.1, hend.2.2.2.mono (by decide) (by decide)⟩
    · show Steps p.tables e below (s₁.setTop (mkF m 36 #[.val (.int q0), .val (.int (((q0.toUInt32 >>> ((24 : Int32) &&& 31).toUInt32).toInt32) &&& (3 : Int32))), .val (.int ((q0 &&& (255 : Int32)).toUInt32.toUInt16.toUInt32.toInt32)), .val (.int ((((q0.toUInt32 >>> ((8 : Int32) &&& 31).toUInt32).toInt32) &&& (255 : Int32)).toUInt32.toUInt16.toUInt32.toInt32)), .val (.int ((((q0.toUInt32 >>> ((16 : Int32) &&& 31).toUInt32).toInt32) &&& (255 : Int32)).toUInt32.toUInt16.toUInt32.toInt32))] [(.int (((q0.toUInt32 >>> ((24 : Int32) &&& 31).toUInt32).toInt32) &&& (3 : Int32)))])) _
      refine XS.ifNo X0.here hx rfl (hb hby d2_36) rfl ((if0 _ _).trans (teq hcx2).2) ?_
      show Steps p.tables e below (s₁.setTop (mkF m 39 #[.val (.int q0), .val (.int (((q0.toUInt32 >>> ((24 : Int32) &&& 31).toUInt32).toInt32) &&& (3 : Int32))), .val (.int ((q0 &&& (255 : Int32)).toUInt32.toUInt16.toUInt32.toInt32)), .val (.int ((((q0.toUInt32 >>> ((8 : Int32) &&& 31).toUInt32).toInt32) &&& (255 : Int32)).toUInt32.toUInt16.toUInt32.toInt32)), .val (.int ((((q0.toUInt32 >>> ((16 : Int32) &&& 31).toUInt32).toInt32) &&& (255 : Int32)).toUInt32.toUInt16.toUInt32.toInt32))] [])) _
      refine st3 _ ?_
      show Steps p.tables e below (T3.setTop (mkF m 42 #[.val (.int q0), .val (.int (((q0.toUInt32 >>> ((24 : Int32) &&& 31).toUInt32).toInt32) &&& (3 : Int32))), .val (.int ((q0 &&& (255 : Int32)).toUInt32.toUInt16.toUInt32.toInt32)), .val (.int ((((q0.toUInt32 >>> ((8 : Int32) &&& 31).toUInt32).toInt32) &&& (255 : Int32)).toUInt32.toUInt16.toUInt32.toInt32)), .val (.int ((((q0.toUInt32 >>> ((16 : Int32) &&& 31).toUInt32).toInt32) &&& (255 : Int32)).toUInt32.toUInt16.toUInt32.toInt32))] [(.ref b3)])) _
      refine XS.dup X3.here hx rfl (hb hby d2_42) rfl rfl ?_
      show Steps p.tables e below (T3.setTop (mkF m 43 #[.val (.int q0), .val (.int (((q0.toUInt32 >>> ((24 : Int32) &&& 31).toUInt32).toInt32) &&& (3 : Int32))), .val (.int ((q0 &&& (255 : Int32)).toUInt32.toUInt16.toUInt32.toInt32)), .val (.int ((((q0.toUInt32 >>> ((8 : Int32) &&& 31).toUInt32).toInt32) &&& (255 : Int32)).toUInt32.toUInt16.toUInt32.toInt32)), .val (.int ((((q0.toUInt32 >>> ((16 : Int32) &&& 31).toUInt32).toInt32) &&& (255 : Int32)).toUInt32.toUInt16.toUInt32.toInt32))] [(.ref b3), (.ref b3)])) _
      refine XS.iconst X3.here hx rfl (hb hby d2_43) ?_
      show Steps p.tables e below (T3.setTop (mkF m 44 #[.val (.int q0), .val (.int (((q0.toUInt32 >>> ((24 : Int32) &&& 31).toUInt32).toInt32) &&& (3 : Int32))), .val (.int ((q0 &&& (255 : Int32)).toUInt32.toUInt16.toUInt32.toInt32)), .val (.int ((((q0.toUInt32 >>> ((8 : Int32) &&& 31).toUInt32).toInt32) &&& (255 : Int32)).toUInt32.toUInt16.toUInt32.toInt32)), .val (.int ((((q0.toUInt32 >>> ((16 : Int32) &&& 31).toUInt32).toInt32) &&& (255 : Int32)).toUInt32.toUInt16.toUInt32.toInt32))] [(.int (0 : Int32)), (.ref b3), (.ref b3)])) _
      refine st6 _ ?_
      show Steps p.tables e below (T6.setTop (mkF m 46 #[.val (.int q0), .val (.int (((q0.toUInt32 >>> ((24 : Int32) &&& 31).toUInt32).toInt32) &&& (3 : Int32))), .val (.int ((q0 &&& (255 : Int32)).toUInt32.toUInt16.toUInt32.toInt32)), .val (.int ((((q0.toUInt32 >>> ((8 : Int32) &&& 31).toUInt32).toInt32) &&& (255 : Int32)).toUInt32.toUInt16.toUInt32.toInt32)), .val (.int ((((q0.toUInt32 >>> ((16 : Int32) &&& 31).toUInt32).toInt32) &&& (255 : Int32)).toUInt32.toUInt16.toUInt32.toInt32))] [(.ref b6), (.ref b3), (.ref b3)])) _
      refine st10.trans ?_
      show Steps p.tables e below (T10.setTop (mkF m 49 #[.val (.int q0), .val (.int (((q0.toUInt32 >>> ((24 : Int32) &&& 31).toUInt32).toInt32) &&& (3 : Int32))), .val (.int ((q0 &&& (255 : Int32)).toUInt32.toUInt16.toUInt32.toInt32)), .val (.int ((((q0.toUInt32 >>> ((8 : Int32) &&& 31).toUInt32).toInt32) &&& (255 : Int32)).toUInt32.toUInt16.toUInt32.toInt32)), .val (.int ((((q0.toUInt32 >>> ((16 : Int32) &&& 31).toUInt32).toInt32) &&& (255 : Int32)).toUInt32.toUInt16.toUInt32.toInt32))] [(.ref b3)])) _
      exact retOut Xr10 hx Bd.returns rfl (Or.inr (Or.inr (Or.inr (Or.inr ⟨rfl, rfl, rfl⟩)))) (hb hby d2_49) hr
    · show Qstr Z q0 G1 h0 n0 _ T10.heap _
      exact ⟨b3, tt_10, kk_10, N10, K18, sz_b3, p10_0, p10_1, p10_2, (by rw [hcs]; have q := p10_3; exact q), trivial, rfl⟩
  · skip
    have pre19 : ∀ t, Steps p.tables e below (s₁.setTop (mkF m 52 #[.val (.int q0), .val (.int (((q0.toUInt32 >>> ((24 : Int32) &&& 31).toUInt32).toInt32) &&& (3 : Int32))), .val (.int ((q0 &&& (255 : Int32)).toUInt32.toUInt16.toUInt32.toInt32)), .val (.int ((((q0.toUInt32 >>> ((8 : Int32) &&& 31).toUInt32).toInt32) &&& (255 : Int32)).toUInt32.toUInt16.toUInt32.toInt32)), .val (.int ((((q0.toUInt32 >>> ((16 : Int32) &&& 31).toUInt32).toInt32) &&& (255 : Int32)).toUInt32.toUInt16.toUInt32.toInt32))] [(.int (1 : Int32)), (.int (((q0.toUInt32 >>> ((24 : Int32) &&& 31).toUInt32).toInt32) &&& (3 : Int32)))])) t → Steps p.tables e below (s₁.setTop (entryFrame m #[(.int q0)] 5)) t := fun t kt => pre1 t (by
      show Steps p.tables e below (s₁.setTop (mkF m 36 #[.val (.int q0), .val (.int (((q0.toUInt32 >>> ((24 : Int32) &&& 31).toUInt32).toInt32) &&& (3 : Int32))), .val (.int ((q0 &&& (255 : Int32)).toUInt32.toUInt16.toUInt32.toInt32)), .val (.int ((((q0.toUInt32 >>> ((8 : Int32) &&& 31).toUInt32).toInt32) &&& (255 : Int32)).toUInt32.toUInt16.toUInt32.toInt32)), .val (.int ((((q0.toUInt32 >>> ((16 : Int32) &&& 31).toUInt32).toInt32) &&& (255 : Int32)).toUInt32.toUInt16.toUInt32.toInt32))] [(.int (((q0.toUInt32 >>> ((24 : Int32) &&& 31).toUInt32).toInt32) &&& (3 : Int32)))])) _
      refine XS.ifYes X0.here hx rfl (pc0 := 36) (pc' := 50) rfl (hb hby d2_36) rfl ((if0 _ _).trans (feq hcx2).2) (by decide) (by decide) ?_
      show Steps p.tables e below (s₁.setTop (mkF m 50 #[.val (.int q0), .val (.int (((q0.toUInt32 >>> ((24 : Int32) &&& 31).toUInt32).toInt32) &&& (3 : Int32))), .val (.int ((q0 &&& (255 : Int32)).toUInt32.toUInt16.toUInt32.toInt32)), .val (.int ((((q0.toUInt32 >>> ((8 : Int32) &&& 31).toUInt32).toInt32) &&& (255 : Int32)).toUInt32.toUInt16.toUInt32.toInt32)), .val (.int ((((q0.toUInt32 >>> ((16 : Int32) &&& 31).toUInt32).toInt32) &&& (255 : Int32)).toUInt32.toUInt16.toUInt32.toInt32))] [])) _
      refine XS.iloadN X0.here hx rfl (hb hby d2_50) rfl ?_
      show Steps p.tables e below (s₁.setTop (mkF m 51 #[.val (.int q0), .val (.int (((q0.toUInt32 >>> ((24 : Int32) &&& 31).toUInt32).toInt32) &&& (3 : Int32))), .val (.int ((q0 &&& (255 : Int32)).toUInt32.toUInt16.toUInt32.toInt32)), .val (.int ((((q0.toUInt32 >>> ((8 : Int32) &&& 31).toUInt32).toInt32) &&& (255 : Int32)).toUInt32.toUInt16.toUInt32.toInt32)), .val (.int ((((q0.toUInt32 >>> ((16 : Int32) &&& 31).toUInt32).toInt32) &&& (255 : Int32)).toUInt32.toUInt16.toUInt32.toInt32))] [(.int (((q0.toUInt32 >>> ((24 : Int32) &&& 31).toUInt32).toInt32) &&& (3 : Int32)))])) _
      refine XS.iconst X0.here hx rfl (hb hby d2_51) ?_
      exact kt)
    by_cases hcx20 : (((q0.toUInt32 >>> ((24 : Int32) &&& 31).toUInt32).toInt32) &&& (3 : Int32)) = (1 : Int32)
    · skip
      obtain ⟨T21, h21, X21, e21, E21, A21, D21, -, st21⟩ := newO X0 hx hZ0 hown0 (own_k hw 10 rfl) (own_k hw 11 rfl) (own_k hw 12 rfl) e0 (g := (mkF m 55 #[.val (.int q0), .val (.int (((q0.toUInt32 >>> ((24 : Int32) &&& 31).toUInt32).toInt32) &&& (3 : Int32))), .val (.int ((q0 &&& (255 : Int32)).toUInt32.toUInt16.toUInt32.toInt32)), .val (.int ((((q0.toUInt32 >>> ((8 : Int32) &&& 31).toUInt32).toInt32) &&& (255 : Int32)).toUInt32.toUInt16.toUInt32.toInt32)), .val (.int ((((q0.toUInt32 >>> ((16 : Int32) &&& 31).toUInt32).toInt32) &&& (255 : Int32)).toUInt32.toUInt16.toUInt32.toInt32))] [])) rfl (hb hby d2_55) (by decide) (by decide)
      obtain ⟨b21, g21⟩ : ∃ z, z = h0.size := ⟨_, rfl⟩
      rw [← g21] at A21 D21 st21
      have g_b21 : n0 ≤ b21 := Nat.le_trans Z0 (Nat.le_of_eq g21.symm)
      have q_b21 : Safe Z own_EL s.vm h0 b21 := Safe.new (Nat.le_of_eq g21.symm)
      have sz_b21 : h0.size ≤ b21 := Nat.le_trans (Keep.refl h0 []).1 (Nat.le_of_eq g21.symm)
      have K22 : Keep h0 h21 [] := (Keep.refl h0 []).ext E21
      have R23 : CHr Z own_EL s.vm h0 s.vm h21 := R0.trans (CHr.ext E21 R0.1)
      have F21_value : Fld Z h21 b21 "java/lang/String" "value" "[B" .null := D21 (Or.inr (own_k hw 26 rfl)) (ty := (.array .byte)) (by decide)
      have F21_coder : Fld Z h21 b21 "java/lang/String" "coder" "B" (.int (0 : Int32)) := D21 (Or.inr (own_k hw 27 rfl)) (ty := .byte) (by decide)
      obtain ⟨T24, h24, k24, X24, e24, E24, A24, st24⟩ := newP X21 hx hZ0 (own_k hw 13 rfl) e21 (g := (mkF m 60 #[.val (.int q0), .val (.int (((q0.toUInt32 >>> ((24 : Int32) &&& 31).toUInt32).toInt32) &&& (3 : Int32))), .val (.int ((q0 &&& (255 : Int32)).toUInt32.toUInt16.toUInt32.toInt32)), .val (.int ((((q0.toUInt32 >>> ((8 : Int32) &&& 31).toUInt32).toInt32) &&& (255 : Int32)).toUInt32.toUInt16.toUInt32.toInt32)), .val (.int ((((q0.toUInt32 >>> ((16 : Int32) &&& 31).toUInt32).toInt32) &&& (255 : Int32)).toUInt32.toUInt16.toUInt32.toInt32))] [(.int (1 : Int32)), (.ref b21), (.ref b21)])) rfl (hb hby d2_60) rfl (by decide) (cap := 1) (by decide) (by decide) (by decide) (by decide)
      obtain ⟨b24, g24⟩ : ∃ z, z = h21.size := ⟨_, rfl⟩
      rw [← g24] at A24 st24
      have f25 : n0 ≤ h21.size := (Nat.le_trans Z0 E21.1)
      have g_b24 : n0 ≤ b24 := Nat.le_trans f25 (Nat.le_of_eq g24.symm)
      have q_b24 : Safe Z own_EL s.vm h21 b24 := Safe.new (Nat.le_of_eq g24.symm)
      have sz_b24 : h0.size ≤ b24 := Nat.le_trans K22.1 (Nat.le_of_eq g24.symm)
      have K26 : Keep h0 h24 [] := K22.ext E24
      have R27 : CHr Z own_EL s.vm h0 s.vm h24 := R23.trans (CHr.ext E24 R23.1)
      have V24 : Arv Z h24 b24 k24 .char (1 : Int32) [(.int (0 : Int32))] (.int (0 : Int32)) := (Arv.new A24 (by decide)).pad (pad_rep [] (.int (0 : Int32)) 1)
      obtain ⟨cl28, Ar28, q28, S28, M28, H28, G28⟩ := id V24
      have hin28 : ¬ ((0 : Int32) < 0 ∨ cl28.slots.size ≤ ((0 : Int32)).toNatClampNeg) := inb_of S28 ⟨by decide, by decide⟩
      obtain ⟨T28, h28, X28, e28, W28, st28⟩ := stC X24 hx hZ0 e24 Ar28 (j := (0 : Int32)) hin28 (g := (mkF m 65 #[.val (.int q0), .val (.int (((q0.toUInt32 >>> ((24 : Int32) &&& 31).toUInt32).toInt32) &&& (3 : Int32))), .val (.int ((q0 &&& (255 : Int32)).toUInt32.toUInt16.toUInt32.toInt32)), .val (.int ((((q0.toUInt32 >>> ((8 : Int32) &&& 31).toUInt32).toInt32) &&& (255 : Int32)).toUInt32.toUInt16.toUInt32.toInt32)), .val (.int ((((q0.toUInt32 >>> ((16 : Int32) &&& 31).toUInt32).toInt32) &&& (255 : Int32)).toUInt32.toUInt16.toUInt32.toInt32))] [(.int ((q0 &&& (255 : Int32)).toUInt32.toUInt16.toUInt32.toInt32)), (.int (0 : Int32)), (.ref b24), (.ref b24), (.ref b21), (.ref b21)])) rfl rfl (hb hby d2_65)
      have R29 : CHr Z own_EL s.vm h0 s.vm h28 := R27.trans (CHr.wr W28 (Safe.arv hZ0.alike V24 (by decide)) R27.1)
      have N28 := Fr.snoc X28 N0 g_b24
      have K30 : Keep h0 h28 [] := K26.wr W28 (Or.inr sz_b24)
      have V28 : Arv Z h28 b24 k24 .char (1 : Int32) [(.int (nar .char ((q0 &&& (255 : Int32)).toUInt32.toUInt16.toUInt32.toInt32)))] (.int (0 : Int32)) := Arv.set Ar28 q28 S28 M28 H28 G28 (fits_nar_char _) W28 0 rfl (Nat.le_of_ble_eq_true rfl)
      have hp31 : ∀ c ∈ ([(nar .char ((q0 &&& (255 : Int32)).toUInt32.toUInt16.toUInt32.toInt32))] : List Int32), ¬ c < 0 ∧ ¬ (255 : Int32) < c := by
        intro c hc
        simp only [List.mem_cons, List.not_mem_nil, or_false] at hc
        subst hc
        · exact own_narC (own_and255 _)
      have hws31 : ∀ d ∈ StrChars.Road.words, d.before a0 Z = true := fun d hd => hw d ((by decide +kernel : ∀ d ∈ StrChars.Road.words, d ∈ tables_1) d hd)
      have f32 : n0 ≤ h28.size := (Nat.le_trans (Nat.le_trans f25 E24.1) (Keep.of_wr W28).1)
      have f33 : Exa Z h28 b21 "java/lang/String" := ((A21.ext E24).wr W28)
      have f34 : Fld Z h28 b21 "java/lang/String" "value" "[B" .null := ((F21_value.ext E24).other W28 (Or.inl (Nat.ne_of_lt (Nat.lt_of_lt_of_le A21.lt (Nat.le_of_eq g24.symm)))))
      have f35 : Fld Z h28 b21 "java/lang/String" "coder" "B" (.int (0 : Int32)) := ((F21_coder.ext E24).other W28 (Or.inl (Nat.ne_of_lt (Nat.lt_of_lt_of_le A21.lt (Nat.le_of_eq g24.symm)))))
      have f36 : Old Z n0 h28 := (((hO.ext E21).ext E24).wr W28 g_b24)
      have f37 : Safe Z own_EL s.vm h28 b21 := (Safe.wr W28 (Safe.arv hZ0.alike V24 (by decide)) R27.1 (Safe.ext E24 R23.1 (Safe.ext E21 R0.1 q_b21)))
      obtain ⟨_, _, ⟨T31, L31, k31, n31⟩, -, X31, ⟨Lc31, hQ31, l31, y31, z31⟩, st31⟩ := X28.specialBack hx (y := (⟨"java/lang/String", "<init>", "([C)V"⟩ : MethodName)) rfl hown0 (mvT hZ0 (own_k hw 14 rfl)) (mvT hZ0 (own_k hw 15 rfl)) (mvT hZ0 (own_k hw 16 rfl)) (by decide) (StrChars.Road.backV (W := 1) hZ0 hws31 (kI := 4) (own_k hw 11 rfl) (cs := ([(nar .char ((q0 &&& (255 : Int32)).toUInt32.toUInt16.toUInt32.toInt32))] : List Int32)) (bs := (([(nar .char ((q0 &&& (255 : Int32)).toUInt32.toUInt16.toUInt32.toInt32))] : List Int32)).map (fun c => c.toInt8.toInt32)) (n := 1) g_b21 f32 f33 f34 f35 V28 (hS.ext f36.2) hG rfl rfl (by decide) (by decide) hp31 rfl (by decide) (by decide)) (g := (mkF m 66 #[.val (.int q0), .val (.int (((q0.toUInt32 >>> ((24 : Int32) &&& 31).toUInt32).toInt32) &&& (3 : Int32))), .val (.int ((q0 &&& (255 : Int32)).toUInt32.toUInt16.toUInt32.toInt32)), .val (.int ((((q0.toUInt32 >>> ((8 : Int32) &&& 31).toUInt32).toInt32) &&& (255 : Int32)).toUInt32.toUInt16.toUInt32.toInt32)), .val (.int ((((q0.toUInt32 >>> ((16 : Int32) &&& 31).toUInt32).toInt32) &&& (255 : Int32)).toUInt32.toUInt16.toUInt32.toInt32))] [(.ref b24), (.ref b21), (.ref b21)])) rfl (by rw [hml]; rfl) (Steps.refl _) (a := b21) (argsL := [(.ref b24)]) (rest := [(.ref b21)]) (lenOf own_pd_1 rfl) rfl (by show 2 * 0 + _ ≤ _; exact Nat.le_of_eq rfl) (hb hby d2_66) (fun _ _ => ⟨rfl, e28, (by decide : 2 + 1 ≤ _), (by decide : 5 + 1 ≤ _)⟩)
      dsimp only [Pt.U, Pt.locs, Pt.cells, Pt.slots] at X31 l31 y31 z31 st31 hQ31
      subst l31 y31 z31
      obtain ⟨rfl, Nq31, Kq31, pE31, pC31, t31, tk31, tg31, tl31, tne31, pV31, pA31⟩ := hQ31
      have N31 := Fr.app N28 Nq31
      have g_t31 : n0 ≤ t31 := Nat.le_trans f32 tl31
      have q_t31 : Safe Z own_EL s.vm h28 t31 := Safe.new tl31
      have sz_t31 : h0.size ≤ t31 := Nat.le_trans K30.1 tl31
      have R38 : CHr Z own_EL s.vm h0 s.vm T31.heap := R29.trans (CHr.keep Kq31 (sfS f37 sf0) R29.1)
      have K39 : Keep h0 T31.heap [] := K30.trans Kq31 (allS (Or.inr sz_b21) all0)
      have hcs : own_st q0 = [(q0 &&& (255 : Int32))] := by unfold own_st own_c3; rw [if_neg hcx2, if_pos hcx20]
      have hRe := R38.trans (CHv.at X31 hZ0 hEL R38.1)
      rw [← hh] at hRe
      have f40 : h0.size ≤ T31.heap.size := (Nat.le_trans (Nat.le_trans (Nat.le_trans (Nat.le_trans Y0 E21.1) E24.1) (Keep.of_wr W28).1) Kq31.1)
      obtain ⟨fs, hr, hrun, hended, hend⟩ := X31.leaveW hS0 f40 (v := (some (.ref b21))) (fun h => by rw [Bd.returns] at h; cases h)
      refine ⟨_, _, pre19 _ ?_, hrun, hended, _, _, rfl, ?_, hRe, hend.1, hend.2.1, hend.2.2.1, hend.2.2.2.mono (by decide) (by decide)⟩
      · show Steps p.tables e below (s₁.setTop (mkF m 52 #[.val (.int q0), .val (.int (((q0.toUInt32 >>> ((24 : Int32) &&& 31).toUInt32).toInt32) &&& (3 : Int32))), .val (.int ((q0 &&& (255 : Int32)).toUInt32.toUInt16.toUInt32.toInt32)), .val (.int ((((q0.toUInt32 >>> ((8 : Int32) &&& 31).toUInt32).toInt32) &&& (255 : Int32)).toUInt32.toUInt16.toUInt32.toInt32)), .val (.int ((((q0.toUInt32 >>> ((16 : Int32) &&& 31).toUInt32).toInt32) &&& (255 : Int32)).toUInt32.toUInt16.toUInt32.toInt32))] [(.int (1 : Int32)), (.int (((q0.toUInt32 >>> ((24 : Int32) &&& 31).toUInt32).toInt32) &&& (3 : Int32)))])) _
        refine XS.icmpNo X0.here hx rfl (hb hby d2_52) rfl (teq hcx20).2 ?_
        show Steps p.tables e below (s₁.setTop (mkF m 55 #[.val (.int q0), .val (.int (((q0.toUInt32 >>> ((24 : Int32) &&& 31).toUInt32).toInt32) &&& (3 : Int32))), .val (.int ((q0 &&& (255 : Int32)).toUInt32.toUInt16.toUInt32.toInt32)), .val (.int ((((q0.toUInt32 >>> ((8 : Int32) &&& 31).toUInt32).toInt32) &&& (255 : Int32)).toUInt32.toUInt16.toUInt32.toInt32)), .val (.int ((((q0.toUInt32 >>> ((16 : Int32) &&& 31).toUInt32).toInt32) &&& (255 : Int32)).toUInt32.toUInt16.toUInt32.toInt32))] [])) _
        refine st21 _ ?_
        show Steps p.tables e below (T21.setTop (mkF m 58 #[.val (.int q0), .val (.int (((q0.toUInt32 >>> ((24 : Int32) &&& 31).toUInt32).toInt32) &&& (3 : Int32))), .val (.int ((q0 &&& (255 : Int32)).toUInt32.toUInt16.toUInt32.toInt32)), .val (.int ((((q0.toUInt32 >>> ((8 : Int32) &&& 31).toUInt32).toInt32) &&& (255 : Int32)).toUInt32.toUInt16.toUInt32.toInt32)), .val (.int ((((q0.toUInt32 >>> ((16 : Int32) &&& 31).toUInt32).toInt32) &&& (255 : Int32)).toUInt32.toUInt16.toUInt32.toInt32))] [(.ref b21)])) _
        refine XS.dup X21.here hx rfl (hb hby d2_58) rfl rfl ?_
        show Steps p.tables e below (T21.setTop (mkF m 59 #[.val (.int q0), .val (.int (((q0.toUInt32 >>> ((24 : Int32) &&& 31).toUInt32).toInt32) &&& (3 : Int32))), .val (.int ((q0 &&& (255 : Int32)).toUInt32.toUInt16.toUInt32.toInt32)), .val (.int ((((q0.toUInt32 >>> ((8 : Int32) &&& 31).toUInt32).toInt32) &&& (255 : Int32)).toUInt32.toUInt16.toUInt32.toInt32)), .val (.int ((((q0.toUInt32 >>> ((16 : Int32) &&& 31).toUInt32).toInt32) &&& (255 : Int32)).toUInt32.toUInt16.toUInt32.toInt32))] [(.ref b21), (.ref b21)])) _
        refine XS.iconst X21.here hx rfl (hb hby d2_59) ?_
        show Steps p.tables e below (T21.setTop (mkF m 60 #[.val (.int q0), .val (.int (((q0.toUInt32 >>> ((24 : Int32) &&& 31).toUInt32).toInt32) &&& (3 : Int32))), .val (.int ((q0 &&& (255 : Int32)).toUInt32.toUInt16.toUInt32.toInt32)), .val (.int ((((q0.toUInt32 >>> ((8 : Int32) &&& 31).toUInt32).toInt32) &&& (255 : Int32)).toUInt32.toUInt16.toUInt32.toInt32)), .val (.int ((((q0.toUInt32 >>> ((16 : Int32) &&& 31).toUInt32).toInt32) &&& (255 : Int32)).toUInt32.toUInt16.toUInt32.toInt32))] [(.int (1 : Int32)), (.ref b21), (.ref b21)])) _
        refine st24 _ ?_
        show Steps p.tables e below (T24.setTop (mkF m 62 #[.val (.int q0), .val (.int (((q0.toUInt32 >>> ((24 : Int32) &&& 31).toUInt32).toInt32) &&& (3 : Int32))), .val (.int ((q0 &&& (255 : Int32)).toUInt32.toUInt16.toUInt32.toInt32)), .val (.int ((((q0.toUInt32 >>> ((8 : Int32) &&& 31).toUInt32).toInt32) &&& (255 : Int32)).toUInt32.toUInt16.toUInt32.toInt32)), .val (.int ((((q0.toUInt32 >>> ((16 : Int32) &&& 31).toUInt32).toInt32) &&& (255 : Int32)).toUInt32.toUInt16.toUInt32.toInt32))] [(.ref b24), (.ref b21), (.ref b21)])) _
        refine XS.dup X24.here hx rfl (hb hby d2_62) rfl rfl ?_
        show Steps p.tables e below (T24.setTop (mkF m 63 #[.val (.int q0), .val (.int (((q0.toUInt32 >>> ((24 : Int32) &&& 31).toUInt32).toInt32) &&& (3 : Int32))), .val (.int ((q0 &&& (255 : Int32)).toUInt32.toUInt16.toUInt32.toInt32)), .val (.int ((((q0.toUInt32 >>> ((8 : Int32) &&& 31).toUInt32).toInt32) &&& (255 : Int32)).toUInt32.toUInt16.toUInt32.toInt32)), .val (.int ((((q0.toUInt32 >>> ((16 : Int32) &&& 31).toUInt32).toInt32) &&& (255 : Int32)).toUInt32.toUInt16.toUInt32.toInt32))] [(.ref b24), (.ref b24), (.ref b21), (.ref b21)])) _
        refine XS.iconst X24.here hx rfl (hb hby d2_63) ?_
        show Steps p.tables e below (T24.setTop (mkF m 64 #[.val (.int q0), .val (.int (((q0.toUInt32 >>> ((24 : Int32) &&& 31).toUInt32).toInt32) &&& (3 : Int32))), .val (.int ((q0 &&& (255 : Int32)).toUInt32.toUInt16.toUInt32.toInt32)), .val (.int ((((q0.toUInt32 >>> ((8 : Int32) &&& 31).toUInt32).toInt32) &&& (255 : Int32)).toUInt32.toUInt16.toUInt32.toInt32)), .val (.int ((((q0.toUInt32 >>> ((16 : Int32) &&& 31).toUInt32).toInt32) &&& (255 : Int32)).toUInt32.toUInt16.toUInt32.toInt32))] [(.int (0 : Int32)), (.ref b24), (.ref b24), (.ref b21), (.ref b21)])) _
        refine XS.iloadN X24.here hx rfl (hb hby d2_64) rfl ?_
        show Steps p.tables e below (T24.setTop (mkF m 65 #[.val (.int q0), .val (.int (((q0.toUInt32 >>> ((24 : Int32) &&& 31).toUInt32).toInt32) &&& (3 : Int32))), .val (.int ((q0 &&& (255 : Int32)).toUInt32.toUInt16.toUInt32.toInt32)), .val (.int ((((q0.toUInt32 >>> ((8 : Int32) &&& 31).toUInt32).toInt32) &&& (255 : Int32)).toUInt32.toUInt16.toUInt32.toInt32)), .val (.int ((((q0.toUInt32 >>> ((16 : Int32) &&& 31).toUInt32).toInt32) &&& (255 : Int32)).toUInt32.toUInt16.toUInt32.toInt32))] [(.int ((q0 &&& (255 : Int32)).toUInt32.toUInt16.toUInt32.toInt32)), (.int (0 : Int32)), (.ref b24), (.ref b24), (.ref b21), (.ref b21)])) _
        refine st28 _ ?_
        show Steps p.tables e below (T28.setTop (mkF m 66 #[.val (.int q0), .val (.int (((q0.toUInt32 >>> ((24 : Int32) &&& 31).toUInt32).toInt32) &&& (3 : Int32))), .val (.int ((q0 &&& (255 : Int32)).toUInt32.toUInt16.toUInt32.toInt32)), .val (.int ((((q0.toUInt32 >>> ((8 : Int32) &&& 31).toUInt32).toInt32) &&& (255 : Int32)).toUInt32.toUInt16.toUInt32.toInt32)), .val (.int ((((q0.toUInt32 >>> ((16 : Int32) &&& 31).toUInt32).toInt32) &&& (255 : Int32)).toUInt32.toUInt16.toUInt32.toInt32))] [(.ref b24), (.ref b21), (.ref b21)])) _
        refine st31.trans ?_
        show Steps p.tables e below (T31.setTop (mkF m 69 #[.val (.int q0), .val (.int (((q0.toUInt32 >>> ((24 : Int32) &&& 31).toUInt32).toInt32) &&& (3 : Int32))), .val (.int ((q0 &&& (255 : Int32)).toUInt32.toUInt16.toUInt32.toInt32)), .val (.int ((((q0.toUInt32 >>> ((8 : Int32) &&& 31).toUInt32).toInt32) &&& (255 : Int32)).toUInt32.toUInt16.toUInt32.toInt32)), .val (.int ((((q0.toUInt32 >>> ((16 : Int32) &&& 31).toUInt32).toInt32) &&& (255 : Int32)).toUInt32.toUInt16.toUInt32.toInt32))] [(.ref b21)])) _
        exact retOut X31 hx Bd.returns rfl (Or.inr (Or.inr (Or.inr (Or.inr ⟨rfl, rfl, rfl⟩)))) (hb hby d2_69) hr
      · show Qstr Z q0 G1 h0 n0 _ T31.heap _
        exact ⟨b21, t31, tk31, N31, K39, sz_b21, pE31, pC31, pV31, (by rw [hcs]; have q := pA31; rw [own_nm q0] at q; exact q), trivial, rfl⟩
    · skip
      have pre41 : ∀ t, Steps p.tables e below (s₁.setTop (mkF m 72 #[.val (.int q0), .val (.int (((q0.toUInt32 >>> ((24 : Int32) &&& 31).toUInt32).toInt32) &&& (3 : Int32))), .val (.int ((q0 &&& (255 : Int32)).toUInt32.toUInt16.toUInt32.toInt32)), .val (.int ((((q0.toUInt32 >>> ((8 : Int32) &&& 31).toUInt32).toInt32) &&& (255 : Int32)).toUInt32.toUInt16.toUInt32.toInt32)), .val (.int ((((q0.toUInt32 >>> ((16 : Int32) &&& 31).toUInt32).toInt32) &&& (255 : Int32)).toUInt32.toUInt16.toUInt32.toInt32))] [(.int (2 : Int32)), (.int (((q0.toUInt32 >>> ((24 : Int32) &&& 31).toUInt32).toInt32) &&& (3 : Int32)))])) t → Steps p.tables e below (s₁.setTop (entryFrame m #[(.int q0)] 5)) t := fun t kt => pre19 t (by
        show Steps p.tables e below (s₁.setTop (mkF m 52 #[.val (.int q0), .val (.int (((q0.toUInt32 >>> ((24 : Int32) &&& 31).toUInt32).toInt32) &&& (3 : Int32))), .val (.int ((q0 &&& (255 : Int32)).toUInt32.toUInt16.toUInt32.toInt32)), .val (.int ((((q0.toUInt32 >>> ((8 : Int32) &&& 31).toUInt32).toInt32) &&& (255 : Int32)).toUInt32.toUInt16.toUInt32.toInt32)), .val (.int ((((q0.toUInt32 >>> ((16 : Int32) &&& 31).toUInt32).toInt32) &&& (255 : Int32)).toUInt32.toUInt16.toUInt32.toInt32))] [(.int (1 : Int32)), (.int (((q0.toUInt32 >>> ((24 : Int32) &&& 31).toUInt32).toInt32) &&& (3 : Int32)))])) _
        refine XS.icmpYes X0.here hx rfl (pc0 := 52) (pc' := 70) rfl (hb hby d2_52) rfl (feq hcx20).2 (by decide) (by decide) ?_
        show Steps p.tables e below (s₁.setTop (mkF m 70 #[.val (.int q0), .val (.int (((q0.toUInt32 >>> ((24 : Int32) &&& 31).toUInt32).toInt32) &&& (3 : Int32))), .val (.int ((q0 &&& (255 : Int32)).toUInt32.toUInt16.toUInt32.toInt32)), .val (.int ((((q0.toUInt32 >>> ((8 : Int32) &&& 31).toUInt32).toInt32) &&& (255 : Int32)).toUInt32.toUInt16.toUInt32.toInt32)), .val (.int ((((q0.toUInt32 >>> ((16 : Int32) &&& 31).toUInt32).toInt32) &&& (255 : Int32)).toUInt32.toUInt16.toUInt32.toInt32))] [])) _
        refine XS.iloadN X0.here hx rfl (hb hby d2_70) rfl ?_
        show Steps p.tables e below (s₁.setTop (mkF m 71 #[.val (.int q0), .val (.int (((q0.toUInt32 >>> ((24 : Int32) &&& 31).toUInt32).toInt32) &&& (3 : Int32))), .val (.int ((q0 &&& (255 : Int32)).toUInt32.toUInt16.toUInt32.toInt32)), .val (.int ((((q0.toUInt32 >>> ((8 : Int32) &&& 31).toUInt32).toInt32) &&& (255 : Int32)).toUInt32.toUInt16.toUInt32.toInt32)), .val (.int ((((q0.toUInt32 >>> ((16 : Int32) &&& 31).toUInt32).toInt32) &&& (255 : Int32)).toUInt32.toUInt16.toUInt32.toInt32))] [(.int (((q0.toUInt32 >>> ((24 : Int32) &&& 31).toUInt32).toInt32) &&& (3 : Int32)))])) _
        refine XS.iconst X0.here hx rfl (hb hby d2_71) ?_
        exact kt)
      by_cases hcx42 : (((q0.toUInt32 >>> ((24 : Int32) &&& 31).toUInt32).toInt32) &&& (3 : Int32)) = (2 : Int32)
      · skip
        obtain ⟨T43, h43, X43, e43, E43, A43, D43, -, st43⟩ := newO X0 hx hZ0 hown0 (own_k hw 10 rfl) (own_k hw 11 rfl) (own_k hw 12 rfl) e0 (g := (mkF m 75 #[.val (.int q0), .val (.int (((q0.toUInt32 >>> ((24 : Int32) &&& 31).toUInt32).toInt32) &&& (3 : Int32))), .val (.int ((q0 &&& (255 : Int32)).toUInt32.toUInt16.toUInt32.toInt32)), .val (.int ((((q0.toUInt32 >>> ((8 : Int32) &&& 31).toUInt32).toInt32) &&& (255 : Int32)).toUInt32.toUInt16.toUInt32.toInt32)), .val (.int ((((q0.toUInt32 >>> ((16 : Int32) &&& 31).toUInt32).toInt32) &&& (255 : Int32)).toUInt32.toUInt16.toUInt32.toInt32))] [])) rfl (hb hby d2_75) (by decide) (by decide)
        obtain ⟨b43, g43⟩ : ∃ z, z = h0.size := ⟨_, rfl⟩
        rw [← g43] at A43 D43 st43
        have g_b43 : n0 ≤ b43 := Nat.le_trans Z0 (Nat.le_of_eq g43.symm)
        have q_b43 : Safe Z own_EL s.vm h0 b43 := Safe.new (Nat.le_of_eq g43.symm)
        have sz_b43 : h0.size ≤ b43 := Nat.le_trans (Keep.refl h0 []).1 (Nat.le_of_eq g43.symm)
        have K44 : Keep h0 h43 [] := (Keep.refl h0 []).ext E43
        have R45 : CHr Z own_EL s.vm h0 s.vm h43 := R0.trans (CHr.ext E43 R0.1)
        have F43_value : Fld Z h43 b43 "java/lang/String" "value" "[B" .null := D43 (Or.inr (own_k hw 26 rfl)) (ty := (.array .byte)) (by decide)
        have F43_coder : Fld Z h43 b43 "java/lang/String" "coder" "B" (.int (0 : Int32)) := D43 (Or.inr (own_k hw 27 rfl)) (ty := .byte) (by decide)
        obtain ⟨T46, h46, k46, X46, e46, E46, A46, st46⟩ := newP X43 hx hZ0 (own_k hw 13 rfl) e43 (g := (mkF m 80 #[.val (.int q0), .val (.int (((q0.toUInt32 >>> ((24 : Int32) &&& 31).toUInt32).toInt32) &&& (3 : Int32))), .val (.int ((q0 &&& (255 : Int32)).toUInt32.toUInt16.toUInt32.toInt32)), .val (.int ((((q0.toUInt32 >>> ((8 : Int32) &&& 31).toUInt32).toInt32) &&& (255 : Int32)).toUInt32.toUInt16.toUInt32.toInt32)), .val (.int ((((q0.toUInt32 >>> ((16 : Int32) &&& 31).toUInt32).toInt32) &&& (255 : Int32)).toUInt32.toUInt16.toUInt32.toInt32))] [(.int (2 : Int32)), (.ref b43), (.ref b43)])) rfl (hb hby d2_80) rfl (by decide) (cap := 2) (by decide) (by decide) (by decide) (by decide)
        obtain ⟨b46, g46⟩ : ∃ z, z = h43.size := ⟨_, rfl⟩
        rw [← g46] at A46 st46
        have f47 : n0 ≤ h43.size := (Nat.le_trans Z0 E43.1)
        have g_b46 : n0 ≤ b46 := Nat.le_trans f47 (Nat.le_of_eq g46.symm)
        have q_b46 : Safe Z own_EL s.vm h43 b46 := Safe.new (Nat.le_of_eq g46.symm)
        have sz_b46 : h0.size ≤ b46 := Nat.le_trans K44.1 (Nat.le_of_eq g46.symm)
        have K48 : Keep h0 h46 [] := K44.ext E46
        have R49 : CHr Z own_EL s.vm h0 s.vm h46 := R45.trans (CHr.ext E46 R45.1)
        have V46 : Arv Z h46 b46 k46 .char (2 : Int32) [(.int (0 : Int32)), (.int (0 : Int32))] (.int (0 : Int32)) := (Arv.new A46 (by decide)).pad (pad_rep [] (.int (0 : Int32)) 2)
        obtain ⟨cl50, Ar50, q50, S50, M50, H50, G50⟩ := id V46
        have hin50 : ¬ ((0 : Int32) < 0 ∨ cl50.slots.size ≤ ((0 : Int32)).toNatClampNeg) := inb_of S50 ⟨by decide, by decide⟩
        obtain ⟨T50, h50, X50, e50, W50, st50⟩ := stC X46 hx hZ0 e46 Ar50 (j := (0 : Int32)) hin50 (g := (mkF m 85 #[.val (.int q0), .val (.int (((q0.toUInt32 >>> ((24 : Int32) &&& 31).toUInt32).toInt32) &&& (3 : Int32))), .val (.int ((q0 &&& (255 : Int32)).toUInt32.toUInt16.toUInt32.toInt32)), .val (.int ((((q0.toUInt32 >>> ((8 : Int32) &&& 31).toUInt32).toInt32) &&& (255 : Int32)).toUInt32.toUInt16.toUInt32.toInt32)), .val (.int ((((q0.toUInt32 >>> ((16 : Int32) &&& 31).toUInt32).toInt32) &&& (255 : Int32)).toUInt32.toUInt16.toUInt32.toInt32))] [(.int ((q0 &&& (255 : Int32)).toUInt32.toUInt16.toUInt32.toInt32)), (.int (0 : Int32)), (.ref b46), (.ref b46), (.ref b43), (.ref b43)])) rfl rfl (hb hby d2_85)
        have R51 : CHr Z own_EL s.vm h0 s.vm h50 := R49.trans (CHr.wr W50 (Safe.arv hZ0.alike V46 (by decide)) R49.1)
        have N50 := Fr.snoc X50 N0 g_b46
        have K52 : Keep h0 h50 [] := K48.wr W50 (Or.inr sz_b46)
        have V50 : Arv Z h50 b46 k46 .char (2 : Int32) [(.int (nar .char ((q0 &&& (255 : Int32)).toUInt32.toUInt16.toUInt32.toInt32))), (.int (0 : Int32))] (.int (0 : Int32)) := Arv.set Ar50 q50 S50 M50 H50 G50 (fits_nar_char _) W50 0 rfl (Nat.le_of_ble_eq_true rfl)
        obtain ⟨cl53, Ar53, q53, S53, M53, H53, G53⟩ := id V50
        have hin53 : ¬ ((1 : Int32) < 0 ∨ cl53.slots.size ≤ ((1 : Int32)).toNatClampNeg) := inb_of S53 ⟨by decide, by decide⟩
        obtain ⟨T53, h53, X53, e53, W53, st53⟩ := stC X50 hx hZ0 e50 Ar53 (j := (1 : Int32)) hin53 (g := (mkF m 89 #[.val (.int q0), .val (.int (((q0.toUInt32 >>> ((24 : Int32) &&& 31).toUInt32).toInt32) &&& (3 : Int32))), .val (.int ((q0 &&& (255 : Int32)).toUInt32.toUInt16.toUInt32.toInt32)), .val (.int ((((q0.toUInt32 >>> ((8 : Int32) &&& 31).toUInt32).toInt32) &&& (255 : Int32)).toUInt32.toUInt16.toUInt32.toInt32)), .val (.int ((((q0.toUInt32 >>> ((16 : Int32) &&& 31).toUInt32).toInt32) &&& (255 : Int32)).toUInt32.toUInt16.toUInt32.toInt32))] [(.int ((((q0.toUInt32 >>> ((8 : Int32) &&& 31).toUInt32).toInt32) &&& (255 : Int32)).toUInt32.toUInt16.toUInt32.toInt32)), (.int (1 : Int32)), (.ref b46), (.ref b46), (.ref b43), (.ref b43)])) rfl rfl (hb hby d2_89)
        have R54 : CHr Z own_EL s.vm h0 s.vm h53 := R51.trans (CHr.wr W53 (Safe.arv hZ0.alike V50 (by decide)) R51.1)
        have N53 := Fr.snoc X53 N50 g_b46
        have K55 : Keep h0 h53 [] := K52.wr W53 (Or.inr sz_b46)
        have V53 : Arv Z h53 b46 k46 .char (2 : Int32) [(.int (nar .char ((q0 &&& (255 : Int32)).toUInt32.toUInt16.toUInt32.toInt32))), (.int (nar .char ((((q0.toUInt32 >>> ((8 : Int32) &&& 31).toUInt32).toInt32) &&& (255 : Int32)).toUInt32.toUInt16.toUInt32.toInt32)))] (.int (0 : Int32)) := Arv.set Ar53 q53 S53 M53 H53 G53 (fits_nar_char _) W53 1 rfl (Nat.le_of_ble_eq_true rfl)
        have hp56 : ∀ c ∈ ([(nar .char ((q0 &&& (255 : Int32)).toUInt32.toUInt16.toUInt32.toInt32)), (nar .char ((((q0.toUInt32 >>> ((8 : Int32) &&& 31).toUInt32).toInt32) &&& (255 : Int32)).toUInt32.toUInt16.toUInt32.toInt32))] : List Int32), ¬ c < 0 ∧ ¬ (255 : Int32) < c := by
          intro c hc
          simp only [List.mem_cons, List.not_mem_nil, or_false] at hc
          rcases hc with rfl | rfl
          · exact own_narC (own_and255 _)
          · exact own_narC (own_and255 _)
        have hws56 : ∀ d ∈ StrChars.Road.words, d.before a0 Z = true := fun d hd => hw d ((by decide +kernel : ∀ d ∈ StrChars.Road.words, d ∈ tables_1) d hd)
        have f57 : n0 ≤ h53.size := (Nat.le_trans (Nat.le_trans (Nat.le_trans f47 E46.1) (Keep.of_wr W50).1) (Keep.of_wr W53).1)
        have f58 : Exa Z h53 b43 "java/lang/String" := (((A43.ext E46).wr W50).wr W53)
        have f59 : Fld Z h53 b43 "java/lang/String" "value" "[B" .null := (((F43_value.ext E46).other W50 (Or.inl (Nat.ne_of_lt (Nat.lt_of_lt_of_le A43.lt (Nat.le_of_eq g46.symm))))).other W53 (Or.inl (Nat.ne_of_lt (Nat.lt_of_lt_of_le A43.lt (Nat.le_of_eq g46.symm)))))
        have f60 : Fld Z h53 b43 "java/lang/String" "coder" "B" (.int (0 : Int32)) := (((F43_coder.ext E46).other W50 (Or.inl (Nat.ne_of_lt (Nat.lt_of_lt_of_le A43.lt (Nat.le_of_eq g46.symm))))).other W53 (Or.inl (Nat.ne_of_lt (Nat.lt_of_lt_of_le A43.lt (Nat.le_of_eq g46.symm)))))
        have f61 : Old Z n0 h53 := ((((hO.ext E43).ext E46).wr W50 g_b46).wr W53 g_b46)
        have f62 : Safe Z own_EL s.vm h53 b43 := (Safe.wr W53 (Safe.arv hZ0.alike V50 (by decide)) R51.1 (Safe.wr W50 (Safe.arv hZ0.alike V46 (by decide)) R49.1 (Safe.ext E46 R45.1 (Safe.ext E43 R0.1 q_b43))))
        obtain ⟨_, _, ⟨T56, L56, k56, n56⟩, -, X56, ⟨Lc56, hQ56, l56, y56, z56⟩, st56⟩ := X53.specialBack hx (y := (⟨"java/lang/String", "<init>", "([C)V"⟩ : MethodName)) rfl hown0 (mvT hZ0 (own_k hw 14 rfl)) (mvT hZ0 (own_k hw 15 rfl)) (mvT hZ0 (own_k hw 16 rfl)) (by decide) (StrChars.Road.backV (W := 1) hZ0 hws56 (kI := 4) (own_k hw 11 rfl) (cs := ([(nar .char ((q0 &&& (255 : Int32)).toUInt32.toUInt16.toUInt32.toInt32)), (nar .char ((((q0.toUInt32 >>> ((8 : Int32) &&& 31).toUInt32).toInt32) &&& (255 : Int32)).toUInt32.toUInt16.toUInt32.toInt32))] : List Int32)) (bs := (([(nar .char ((q0 &&& (255 : Int32)).toUInt32.toUInt16.toUInt32.toInt32)), (nar .char ((((q0.toUInt32 >>> ((8 : Int32) &&& 31).toUInt32).toInt32) &&& (255 : Int32)).toUInt32.toUInt16.toUInt32.toInt32))] : List Int32)).map (fun c => c.toInt8.toInt32)) (n := 2) g_b43 f57 f58 f59 f60 V53 (hS.ext f61.2) hG rfl rfl (by decide) (by decide) hp56 rfl (by decide) (by decide)) (g := (mkF m 90 #[.val (.int q0), .val (.int (((q0.toUInt32 >>> ((24 : Int32) &&& 31).toUInt32).toInt32) &&& (3 : Int32))), .val (.int ((q0 &&& (255 : Int32)).toUInt32.toUInt16.toUInt32.toInt32)), .val (.int ((((q0.toUInt32 >>> ((8 : Int32) &&& 31).toUInt32).toInt32) &&& (255 : Int32)).toUInt32.toUInt16.toUInt32.toInt32)), .val (.int ((((q0.toUInt32 >>> ((16 : Int32) &&& 31).toUInt32).toInt32) &&& (255 : Int32)).toUInt32.toUInt16.toUInt32.toInt32))] [(.ref b46), (.ref b43), (.ref b43)])) rfl (by rw [hml]; rfl) (Steps.refl _) (a := b43) (argsL := [(.ref b46)]) (rest := [(.ref b43)]) (lenOf own_pd_1 rfl) rfl (by show 2 * 0 + _ ≤ _; exact Nat.le_of_eq rfl) (hb hby d2_90) (fun _ _ => ⟨rfl, e53, (by decide : 2 + 1 ≤ _), (by decide : 6 + 2 ≤ _)⟩)
        dsimp only [Pt.U, Pt.locs, Pt.cells, Pt.slots] at X56 l56 y56 z56 st56 hQ56
        subst l56 y56 z56
        obtain ⟨rfl, Nq56, Kq56, pE56, pC56, t56, tk56, tg56, tl56, tne56, pV56, pA56⟩ := hQ56
        have N56 := Fr.app N53 Nq56
        have g_t56 : n0 ≤ t56 := Nat.le_trans f57 tl56
        have q_t56 : Safe Z own_EL s.vm h53 t56 := Safe.new tl56
        have sz_t56 : h0.size ≤ t56 := Nat.le_trans K55.1 tl56
        have R63 : CHr Z own_EL s.vm h0 s.vm T56.heap := R54.trans (CHr.keep Kq56 (sfS f62 sf0) R54.1)
        have K64 : Keep h0 T56.heap [] := K55.trans Kq56 (allS (Or.inr sz_b43) all0)
        have hcs : own_st q0 = [(q0 &&& (255 : Int32)), (((q0.toUInt32 >>> ((8 : Int32) &&& 31).toUInt32).toInt32) &&& (255 : Int32))] := by unfold own_st own_c3; rw [if_neg hcx2, if_neg hcx20, if_pos hcx42]
        have hRe := R63.trans (CHv.at X56 hZ0 hEL R63.1)
        rw [← hh] at hRe
        have f65 : h0.size ≤ T56.heap.size := (Nat.le_trans (Nat.le_trans (Nat.le_trans (Nat.le_trans (Nat.le_trans Y0 E43.1) E46.1) (Keep.of_wr W50).1) (Keep.of_wr W53).1) Kq56.1)
        obtain ⟨fs, hr, hrun, hended, hend⟩ := X56.leaveW hS0 f65 (v := (some (.ref b43))) (fun h => by rw [Bd.returns] at h; cases h)
        refine ⟨_, _, pre41 _ ?_, hrun, hended, _, _, rfl, ?_, hRe, hend.1, hend.2.1, hend.2.2.1, hend.2.2.2.mono (by decide) (by decide)⟩
        · show Steps p.tables e below (s₁.setTop (mkF m 72 #[.val (.int q0), .val (.int (((q0.toUInt32 >>> ((24 : Int32) &&& 31).toUInt32).toInt32) &&& (3 : Int32))), .val (.int ((q0 &&& (255 : Int32)).toUInt32.toUInt16.toUInt32.toInt32)), .val (.int ((((q0.toUInt32 >>> ((8 : Int32) &&& 31).toUInt32).toInt32) &&& (255 : Int32)).toUInt32.toUInt16.toUInt32.toInt32)), .val (.int ((((q0.toUInt32 >>> ((16 : Int32) &&& 31).toUInt32).toInt32) &&& (255 : Int32)).toUInt32.toUInt16.toUInt32.toInt32))] [(.int (2 : Int32)), (.int (((q0.toUInt32 >>> ((24 : Int32) &&& 31).toUInt32).toInt32) &&& (3 : Int32)))])) _
          refine XS.icmpNo X0.here hx rfl (hb hby d2_72) rfl (teq hcx42).2 ?_
          show Steps p.tables e below (s₁.setTop (mkF m 75 #[.val (.int q0), .val (.int (((q0.toUInt32 >>> ((24 : Int32) &&& 31).toUInt32).toInt32) &&& (3 : Int32))), .val (.int ((q0 &&& (255 : Int32)).toUInt32.toUInt16.toUInt32.toInt32)), .val (.int ((((q0.toUInt32 >>> ((8 : Int32) &&& 31).toUInt32).toInt32) &&& (255 : Int32)).toUInt32.toUInt16.toUInt32.toInt32)), .val (.int ((((q0.toUInt32 >>> ((16 : Int32) &&& 31).toUInt32).toInt32) &&& (255 : Int32)).toUInt32.toUInt16.toUInt32.toInt32))] [])) _
          refine st43 _ ?_
          show Steps p.tables e below (T43.setTop (mkF m 78 #[.val (.int q0), .val (.int (((q0.toUInt32 >>> ((24 : Int32) &&& 31).toUInt32).toInt32) &&& (3 : Int32))), .val (.int ((q0 &&& (255 : Int32)).toUInt32.toUInt16.toUInt32.toInt32)), .val (.int ((((q0.toUInt32 >>> ((8 : Int32) &&& 31).toUInt32).toInt32) &&& (255 : Int32)).toUInt32.toUInt16.toUInt32.toInt32)), .val (.int ((((q0.toUInt32 >>> ((16 : Int32) &&& 31).toUInt32).toInt32) &&& (255 : Int32)).toUInt32.toUInt16.toUInt32.toInt32))] [(.ref b43)])) _
          refine XS.dup X43.here hx rfl (hb hby d2_78) rfl rfl ?_
          show Steps p.tables e below (T43.setTop (mkF m 79 #[.val (.int q0), .val (.int (((q0.toUInt32 >>> ((24 : Int32) &&& 31).toUInt32).toInt32) &&& (3 : Int32))), .val (.int ((q0 &&& (255 : Int32)).toUInt32.toUInt16.toUInt32.toInt32)), .val (.int ((((q0.toUInt32 >>> ((8 : Int32) &&& 31).toUInt32).toInt32) &&& (255 : Int32)).toUInt32.toUInt16.toUInt32.toInt32)), .val (.int ((((q0.toUInt32 >>> ((16 : Int32) &&& 31).toUInt32).toInt32) &&& (255 : Int32)).toUInt32.toUInt16.toUInt32.toInt32))] [(.ref b43), (.ref b43)])) _
          refine XS.iconst X43.here hx rfl (hb hby d2_79) ?_
          show Steps p.tables e below (T43.setTop (mkF m 80 #[.val (.int q0), .val (.int (((q0.toUInt32 >>> ((24 : Int32) &&& 31).toUInt32).toInt32) &&& (3 : Int32))), .val (.int ((q0 &&& (255 : Int32)).toUInt32.toUInt16.toUInt32.toInt32)), .val (.int ((((q0.toUInt32 >>> ((8 : Int32) &&& 31).toUInt32).toInt32) &&& (255 : Int32)).toUInt32.toUInt16.toUInt32.toInt32)), .val (.int ((((q0.toUInt32 >>> ((16 : Int32) &&& 31).toUInt32).toInt32) &&& (255 : Int32)).toUInt32.toUInt16.toUInt32.toInt32))] [(.int (2 : Int32)), (.ref b43), (.ref b43)])) _
          refine st46 _ ?_
          show Steps p.tables e below (T46.setTop (mkF m 82 #[.val (.int q0), .val (.int (((q0.toUInt32 >>> ((24 : Int32) &&& 31).toUInt32).toInt32) &&& (3 : Int32))), .val (.int ((q0 &&& (255 : Int32)).toUInt32.toUInt16.toUInt32.toInt32)), .val (.int ((((q0.toUInt32 >>> ((8 : Int32) &&& 31).toUInt32).toInt32) &&& (255 : Int32)).toUInt32.toUInt16.toUInt32.toInt32)), .val (.int ((((q0.toUInt32 >>> ((16 : Int32) &&& 31).toUInt32).toInt32) &&& (255 : Int32)).toUInt32.toUInt16.toUInt32.toInt32))] [(.ref b46), (.ref b43), (.ref b43)])) _
          refine XS.dup X46.here hx rfl (hb hby d2_82) rfl rfl ?_
          show Steps p.tables e below (T46.setTop (mkF m 83 #[.val (.int q0), .val (.int (((q0.toUInt32 >>> ((24 : Int32) &&& 31).toUInt32).toInt32) &&& (3 : Int32))), .val (.int ((q0 &&& (255 : Int32)).toUInt32.toUInt16.toUInt32.toInt32)), .val (.int ((((q0.toUInt32 >>> ((8 : Int32) &&& 31).toUInt32).toInt32) &&& (255 : Int32)).toUInt32.toUInt16.toUInt32.toInt32)), .val (.int ((((q0.toUInt32 >>> ((16 : Int32) &&& 31).toUInt32).toInt32) &&& (255 : Int32)).toUInt32.toUInt16.toUInt32.toInt32))] [(.ref b46), (.ref b46), (.ref b43), (.ref b43)])) _
          refine XS.iconst X46.here hx rfl (hb hby d2_83) ?_
          show Steps p.tables e below (T46.setTop (mkF m 84 #[.val (.int q0), .val (.int (((q0.toUInt32 >>> ((24 : Int32) &&& 31).toUInt32).toInt32) &&& (3 : Int32))), .val (.int ((q0 &&& (255 : Int32)).toUInt32.toUInt16.toUInt32.toInt32)), .val (.int ((((q0.toUInt32 >>> ((8 : Int32) &&& 31).toUInt32).toInt32) &&& (255 : Int32)).toUInt32.toUInt16.toUInt32.toInt32)), .val (.int ((((q0.toUInt32 >>> ((16 : Int32) &&& 31).toUInt32).toInt32) &&& (255 : Int32)).toUInt32.toUInt16.toUInt32.toInt32))] [(.int (0 : Int32)), (.ref b46), (.ref b46), (.ref b43), (.ref b43)])) _
          refine XS.iloadN X46.here hx rfl (hb hby d2_84) rfl ?_
          show Steps p.tables e below (T46.setTop (mkF m 85 #[.val (.int q0), .val (.int (((q0.toUInt32 >>> ((24 : Int32) &&& 31).toUInt32).toInt32) &&& (3 : Int32))), .val (.int ((q0 &&& (255 : Int32)).toUInt32.toUInt16.toUInt32.toInt32)), .val (.int ((((q0.toUInt32 >>> ((8 : Int32) &&& 31).toUInt32).toInt32) &&& (255 : Int32)).toUInt32.toUInt16.toUInt32.toInt32)), .val (.int ((((q0.toUInt32 >>> ((16 : Int32) &&& 31).toUInt32).toInt32) &&& (255 : Int32)).toUInt32.toUInt16.toUInt32.toInt32))] [(.int ((q0 &&& (255 : Int32)).toUInt32.toUInt16.toUInt32.toInt32)), (.int (0 : Int32)), (.ref b46), (.ref b46), (.ref b43), (.ref b43)])) _
          refine st50 _ ?_
          show Steps p.tables e below (T50.setTop (mkF m 86 #[.val (.int q0), .val (.int (((q0.toUInt32 >>> ((24 : Int32) &&& 31).toUInt32).toInt32) &&& (3 : Int32))), .val (.int ((q0 &&& (255 : Int32)).toUInt32.toUInt16.toUInt32.toInt32)), .val (.int ((((q0.toUInt32 >>> ((8 : Int32) &&& 31).toUInt32).toInt32) &&& (255 : Int32)).toUInt32.toUInt16.toUInt32.toInt32)), .val (.int ((((q0.toUInt32 >>> ((16 : Int32) &&& 31).toUInt32).toInt32) &&& (255 : Int32)).toUInt32.toUInt16.toUInt32.toInt32))] [(.ref b46), (.ref b43), (.ref b43)])) _
          refine XS.dup X50.here hx rfl (hb hby d2_86) rfl rfl ?_
          show Steps p.tables e below (T50.setTop (mkF m 87 #[.val (.int q0), .val (.int (((q0.toUInt32 >>> ((24 : Int32) &&& 31).toUInt32).toInt32) &&& (3 : Int32))), .val (.int ((q0 &&& (255 : Int32)).toUInt32.toUInt16.toUInt32.toInt32)), .val (.int ((((q0.toUInt32 >>> ((8 : Int32) &&& 31).toUInt32).toInt32) &&& (255 : Int32)).toUInt32.toUInt16.toUInt32.toInt32)), .val (.int ((((q0.toUInt32 >>> ((16 : Int32) &&& 31).toUInt32).toInt32) &&& (255 : Int32)).toUInt32.toUInt16.toUInt32.toInt32))] [(.ref b46), (.ref b46), (.ref b43), (.ref b43)])) _
          refine XS.iconst X50.here hx rfl (hb hby d2_87) ?_
          show Steps p.tables e below (T50.setTop (mkF m 88 #[.val (.int q0), .val (.int (((q0.toUInt32 >>> ((24 : Int32) &&& 31).toUInt32).toInt32) &&& (3 : Int32))), .val (.int ((q0 &&& (255 : Int32)).toUInt32.toUInt16.toUInt32.toInt32)), .val (.int ((((q0.toUInt32 >>> ((8 : Int32) &&& 31).toUInt32).toInt32) &&& (255 : Int32)).toUInt32.toUInt16.toUInt32.toInt32)), .val (.int ((((q0.toUInt32 >>> ((16 : Int32) &&& 31).toUInt32).toInt32) &&& (255 : Int32)).toUInt32.toUInt16.toUInt32.toInt32))] [(.int (1 : Int32)), (.ref b46), (.ref b46), (.ref b43), (.ref b43)])) _
          refine XS.iloadN X50.here hx rfl (hb hby d2_88) rfl ?_
          show Steps p.tables e below (T50.setTop (mkF m 89 #[.val (.int q0), .val (.int (((q0.toUInt32 >>> ((24 : Int32) &&& 31).toUInt32).toInt32) &&& (3 : Int32))), .val (.int ((q0 &&& (255 : Int32)).toUInt32.toUInt16.toUInt32.toInt32)), .val (.int ((((q0.toUInt32 >>> ((8 : Int32) &&& 31).toUInt32).toInt32) &&& (255 : Int32)).toUInt32.toUInt16.toUInt32.toInt32)), .val (.int ((((q0.toUInt32 >>> ((16 : Int32) &&& 31).toUInt32).toInt32) &&& (255 : Int32)).toUInt32.toUInt16.toUInt32.toInt32))] [(.int ((((q0.toUInt32 >>> ((8 : Int32) &&& 31).toUInt32).toInt32) &&& (255 : Int32)).toUInt32.toUInt16.toUInt32.toInt32)), (.int (1 : Int32)), (.ref b46), (.ref b46), (.ref b43), (.ref b43)])) _
          refine st53 _ ?_
          show Steps p.tables e below (T53.setTop (mkF m 90 #[.val (.int q0), .val (.int (((q0.toUInt32 >>> ((24 : Int32) &&& 31).toUInt32).toInt32) &&& (3 : Int32))), .val (.int ((q0 &&& (255 : Int32)).toUInt32.toUInt16.toUInt32.toInt32)), .val (.int ((((q0.toUInt32 >>> ((8 : Int32) &&& 31).toUInt32).toInt32) &&& (255 : Int32)).toUInt32.toUInt16.toUInt32.toInt32)), .val (.int ((((q0.toUInt32 >>> ((16 : Int32) &&& 31).toUInt32).toInt32) &&& (255 : Int32)).toUInt32.toUInt16.toUInt32.toInt32))] [(.ref b46), (.ref b43), (.ref b43)])) _
          refine st56.trans ?_
          show Steps p.tables e below (T56.setTop (mkF m 93 #[.val (.int q0), .val (.int (((q0.toUInt32 >>> ((24 : Int32) &&& 31).toUInt32).toInt32) &&& (3 : Int32))), .val (.int ((q0 &&& (255 : Int32)).toUInt32.toUInt16.toUInt32.toInt32)), .val (.int ((((q0.toUInt32 >>> ((8 : Int32) &&& 31).toUInt32).toInt32) &&& (255 : Int32)).toUInt32.toUInt16.toUInt32.toInt32)), .val (.int ((((q0.toUInt32 >>> ((16 : Int32) &&& 31).toUInt32).toInt32) &&& (255 : Int32)).toUInt32.toUInt16.toUInt32.toInt32))] [(.ref b43)])) _
          exact retOut X56 hx Bd.returns rfl (Or.inr (Or.inr (Or.inr (Or.inr ⟨rfl, rfl, rfl⟩)))) (hb hby d2_93) hr
        · show Qstr Z q0 G1 h0 n0 _ T56.heap _
          exact ⟨b43, t56, tk56, N56, K64, sz_b43, pE56, pC56, pV56, (by rw [hcs]; have q := pA56; rw [own_nm q0, own_nm ((q0.toUInt32 >>> ((8 : Int32) &&& 31).toUInt32).toInt32)] at q; exact q), trivial, rfl⟩
      · skip
        obtain ⟨T66, h66, X66, e66, E66, A66, D66, -, st66⟩ := newO X0 hx hZ0 hown0 (own_k hw 10 rfl) (own_k hw 11 rfl) (own_k hw 12 rfl) e0 (g := (mkF m 94 #[.val (.int q0), .val (.int (((q0.toUInt32 >>> ((24 : Int32) &&& 31).toUInt32).toInt32) &&& (3 : Int32))), .val (.int ((q0 &&& (255 : Int32)).toUInt32.toUInt16.toUInt32.toInt32)), .val (.int ((((q0.toUInt32 >>> ((8 : Int32) &&& 31).toUInt32).toInt32) &&& (255 : Int32)).toUInt32.toUInt16.toUInt32.toInt32)), .val (.int ((((q0.toUInt32 >>> ((16 : Int32) &&& 31).toUInt32).toInt32) &&& (255 : Int32)).toUInt32.toUInt16.toUInt32.toInt32))] [])) rfl (hb hby d2_94) (by decide) (by decide)
        obtain ⟨b66, g66⟩ : ∃ z, z = h0.size := ⟨_, rfl⟩
        rw [← g66] at A66 D66 st66
        have g_b66 : n0 ≤ b66 := Nat.le_trans Z0 (Nat.le_of_eq g66.symm)
        have q_b66 : Safe Z own_EL s.vm h0 b66 := Safe.new (Nat.le_of_eq g66.symm)
        have sz_b66 : h0.size ≤ b66 := Nat.le_trans (Keep.refl h0 []).1 (Nat.le_of_eq g66.symm)
        have K67 : Keep h0 h66 [] := (Keep.refl h0 []).ext E66
        have R68 : CHr Z own_EL s.vm h0 s.vm h66 := R0.trans (CHr.ext E66 R0.1)
        have F66_value : Fld Z h66 b66 "java/lang/String" "value" "[B" .null := D66 (Or.inr (own_k hw 26 rfl)) (ty := (.array .byte)) (by decide)
        have F66_coder : Fld Z h66 b66 "java/lang/String" "coder" "B" (.int (0 : Int32)) := D66 (Or.inr (own_k hw 27 rfl)) (ty := .byte) (by decide)
        obtain ⟨T69, h69, k69, X69, e69, E69, A69, st69⟩ := newP X66 hx hZ0 (own_k hw 13 rfl) e66 (g := (mkF m 99 #[.val (.int q0), .val (.int (((q0.toUInt32 >>> ((24 : Int32) &&& 31).toUInt32).toInt32) &&& (3 : Int32))), .val (.int ((q0 &&& (255 : Int32)).toUInt32.toUInt16.toUInt32.toInt32)), .val (.int ((((q0.toUInt32 >>> ((8 : Int32) &&& 31).toUInt32).toInt32) &&& (255 : Int32)).toUInt32.toUInt16.toUInt32.toInt32)), .val (.int ((((q0.toUInt32 >>> ((16 : Int32) &&& 31).toUInt32).toInt32) &&& (255 : Int32)).toUInt32.toUInt16.toUInt32.toInt32))] [(.int (3 : Int32)), (.ref b66), (.ref b66)])) rfl (hb hby d2_99) rfl (by decide) (cap := 3) (by decide) (by decide) (by decide) (by decide)
        obtain ⟨b69, g69⟩ : ∃ z, z = h66.size := ⟨_, rfl⟩
        rw [← g69] at A69 st69
        have f70 : n0 ≤ h66.size := (Nat.le_trans Z0 E66.1)
        have g_b69 : n0 ≤ b69 := Nat.le_trans f70 (Nat.le_of_eq g69.symm)
        have q_b69 : Safe Z own_EL s.vm h66 b69 := Safe.new (Nat.le_of_eq g69.symm)
        have sz_b69 : h0.size ≤ b69 := Nat.le_trans K67.1 (Nat.le_of_eq g69.symm)
        have K71 : Keep h0 h69 [] := K67.ext E69
        have R72 : CHr Z own_EL s.vm h0 s.vm h69 := R68.trans (CHr.ext E69 R68.1)
        have V69 : Arv Z h69 b69 k69 .char (3 : Int32) [(.int (0 : Int32)), (.int (0 : Int32)), (.int (0 : Int32))] (.int (0 : Int32)) := (Arv.new A69 (by decide)).pad (pad_rep [] (.int (0 : Int32)) 3)
        obtain ⟨cl73, Ar73, q73, S73, M73, H73, G73⟩ := id V69
        have hin73 : ¬ ((0 : Int32) < 0 ∨ cl73.slots.size ≤ ((0 : Int32)).toNatClampNeg) := inb_of S73 ⟨by decide, by decide⟩
        obtain ⟨T73, h73, X73, e73, W73, st73⟩ := stC X69 hx hZ0 e69 Ar73 (j := (0 : Int32)) hin73 (g := (mkF m 104 #[.val (.int q0), .val (.int (((q0.toUInt32 >>> ((24 : Int32) &&& 31).toUInt32).toInt32) &&& (3 : Int32))), .val (.int ((q0 &&& (255 : Int32)).toUInt32.toUInt16.toUInt32.toInt32)), .val (.int ((((q0.toUInt32 >>> ((8 : Int32) &&& 31).toUInt32).toInt32) &&& (255 : Int32)).toUInt32.toUInt16.toUInt32.toInt32)), .val (.int ((((q0.toUInt32 >>> ((16 : Int32) &&& 31).toUInt32).toInt32) &&& (255 : Int32)).toUInt32.toUInt16.toUInt32.toInt32))] [(.int ((q0 &&& (255 : Int32)).toUInt32.toUInt16.toUInt32.toInt32)), (.int (0 : Int32)), (.ref b69), (.ref b69), (.ref b66), (.ref b66)])) rfl rfl (hb hby d2_104)
        have R74 : CHr Z own_EL s.vm h0 s.vm h73 := R72.trans (CHr.wr W73 (Safe.arv hZ0.alike V69 (by decide)) R72.1)
        have N73 := Fr.snoc X73 N0 g_b69
        have K75 : Keep h0 h73 [] := K71.wr W73 (Or.inr sz_b69)
        have V73 : Arv Z h73 b69 k69 .char (3 : Int32) [(.int (nar .char ((q0 &&& (255 : Int32)).toUInt32.toUInt16.toUInt32.toInt32))), (.int (0 : Int32)), (.int (0 : Int32))] (.int (0 : Int32)) := Arv.set Ar73 q73 S73 M73 H73 G73 (fits_nar_char _) W73 0 rfl (Nat.le_of_ble_eq_true rfl)
        obtain ⟨cl76, Ar76, q76, S76, M76, H76, G76⟩ := id V73
        have hin76 : ¬ ((1 : Int32) < 0 ∨ cl76.slots.size ≤ ((1 : Int32)).toNatClampNeg) := inb_of S76 ⟨by decide, by decide⟩
        obtain ⟨T76, h76, X76, e76, W76, st76⟩ := stC X73 hx hZ0 e73 Ar76 (j := (1 : Int32)) hin76 (g := (mkF m 108 #[.val (.int q0), .val (.int (((q0.toUInt32 >>> ((24 : Int32) &&& 31).toUInt32).toInt32) &&& (3 : Int32))), .val (.int ((q0 &&& (255 : Int32)).toUInt32.toUInt16.toUInt32.toInt32)), .val (.int ((((q0.toUInt32 >>> ((8 : Int32) &&& 31).toUInt32).toInt32) &&& (255 : Int32)).toUInt32.toUInt16.toUInt32.toInt32)), .val (.int ((((q0.toUInt32 >>> ((16 : Int32) &&& 31).toUInt32).toInt32) &&& (255 : Int32)).toUInt32.toUInt16.toUInt32.toInt32))] [(.int ((((q0.toUInt32 >>> ((8 : Int32) &&& 31).toUInt32).toInt32) &&& (255 : Int32)).toUInt32.toUInt16.toUInt32.toInt32)), (.int (1 : Int32)), (.ref b69), (.ref b69), (.ref b66), (.ref b66)])) rfl rfl (hb hby d2_108)
        have R77 : CHr Z own_EL s.vm h0 s.vm h76 := R74.trans (CHr.wr W76 (Safe.arv hZ0.alike V73 (by decide)) R74.1)
        have N76 := Fr.snoc X76 N73 g_b69
        have K78 : Keep h0 h76 [] := K75.wr W76 (Or.inr sz_b69)
        have V76 : Arv Z h76 b69 k69 .char (3 : Int32) [(.int (nar .char ((q0 &&& (255 : Int32)).toUInt32.toUInt16.toUInt32.toInt32))), (.int (nar .char ((((q0.toUInt32 >>> ((8 : Int32) &&& 31).toUInt32).toInt32) &&& (255 : Int32)).toUInt32.toUInt16.toUInt32.toInt32))), (.int (0 : Int32))] (.int (0 : Int32)) := Arv.set Ar76 q76 S76 M76 H76 G76 (fits_nar_char _) W76 1 rfl (Nat.le_of_ble_eq_true rfl)
        obtain ⟨cl79, Ar79, q79, S79, M79, H79, G79⟩ := id V76
        have hin79 : ¬ ((2 : Int32) < 0 ∨ cl79.slots.size ≤ ((2 : Int32)).toNatClampNeg) := inb_of S79 ⟨by decide, by decide⟩
        obtain ⟨T79, h79, X79, e79, W79, st79⟩ := stC X76 hx hZ0 e76 Ar79 (j := (2 : Int32)) hin79 (g := (mkF m 113 #[.val (.int q0), .val (.int (((q0.toUInt32 >>> ((24 : Int32) &&& 31).toUInt32).toInt32) &&& (3 : Int32))), .val (.int ((q0 &&& (255 : Int32)).toUInt32.toUInt16.toUInt32.toInt32)), .val (.int ((((q0.toUInt32 >>> ((8 : Int32) &&& 31).toUInt32).toInt32) &&& (255 : Int32)).toUInt32.toUInt16.toUInt32.toInt32)), .val (.int ((((q0.toUInt32 >>> ((16 : Int32) &&& 31).toUInt32).toInt32) &&& (255 : Int32)).toUInt32.toUInt16.toUInt32.toInt32))] [(.int ((((q0.toUInt32 >>> ((16 : Int32) &&& 31).toUInt32).toInt32) &&& (255 : Int32)).toUInt32.toUInt16.toUInt32.toInt32)), (.int (2 : Int32)), (.ref b69), (.ref b69), (.ref b66), (.ref b66)])) rfl rfl (hb hby d2_113)
        have R80 : CHr Z own_EL s.vm h0 s.vm h79 := R77.trans (CHr.wr W79 (Safe.arv hZ0.alike V76 (by decide)) R77.1)
        have N79 := Fr.snoc X79 N76 g_b69
        have K81 : Keep h0 h79 [] := K78.wr W79 (Or.inr sz_b69)
        have V79 : Arv Z h79 b69 k69 .char (3 : Int32) [(.int (nar .char ((q0 &&& (255 : Int32)).toUInt32.toUInt16.toUInt32.toInt32))), (.int (nar .char ((((q0.toUInt32 >>> ((8 : Int32) &&& 31).toUInt32).toInt32) &&& (255 : Int32)).toUInt32.toUInt16.toUInt32.toInt32))), (.int (nar .char ((((q0.toUInt32 >>> ((16 : Int32) &&& 31).toUInt32).toInt32) &&& (255 : Int32)).toUInt32.toUInt16.toUInt32.toInt32)))] (.int (0 : Int32)) := Arv.set Ar79 q79 S79 M79 H79 G79 (fits_nar_char _) W79 2 rfl (Nat.le_of_ble_eq_true rfl)
        have hp82 : ∀ c ∈ ([(nar .char ((q0 &&& (255 : Int32)).toUInt32.toUInt16.toUInt32.toInt32)), (nar .char ((((q0.toUInt32 >>> ((8 : Int32) &&& 31).toUInt32).toInt32) &&& (255 : Int32)).toUInt32.toUInt16.toUInt32.toInt32)), (nar .char ((((q0.toUInt32 >>> ((16 : Int32) &&& 31).toUInt32).toInt32) &&& (255 : Int32)).toUInt32.toUInt16.toUInt32.toInt32))] : List Int32), ¬ c < 0 ∧ ¬ (255 : Int32) < c := by
          intro c hc
          simp only [List.mem_cons, List.not_mem_nil, or_false] at hc
          rcases hc with rfl | rfl | rfl
          · exact own_narC (own_and255 _)
          · exact own_narC (own_and255 _)
          · exact own_narC (own_and255 _)
        have hws82 : ∀ d ∈ StrChars.Road.words, d.before a0 Z = true := fun d hd => hw d ((by decide +kernel : ∀ d ∈ StrChars.Road.words, d ∈ tables_1) d hd)
        have f83 : n0 ≤ h79.size := (Nat.le_trans (Nat.le_trans (Nat.le_trans (Nat.le_trans f70 E69.1) (Keep.of_wr W73).1) (Keep.of_wr W76).1) (Keep.of_wr W79).1)
        have f84 : Exa Z h79 b66 "java/lang/String" := ((((A66.ext E69).wr W73).wr W76).wr W79)
        have f85 : Fld Z h79 b66 "java/lang/String" "value" "[B" .null := ((((F66_value.ext E69).other W73 (Or.inl (Nat.ne_of_lt (Nat.lt_of_lt_of_le A66.lt (Nat.le_of_eq g69.symm))))).other W76 (Or.inl (Nat.ne_of_lt (Nat.lt_of_lt_of_le A66.lt (Nat.le_of_eq g69.symm))))).other W79 (Or.inl (Nat.ne_of_lt (Nat.lt_of_lt_of_le A66.lt (Nat.le_of_eq g69.symm)))))
        have f86 : Fld Z h79 b66 "java/lang/String" "coder" "B" (.int (0 : Int32)) := ((((F66_coder.ext E69).other W73 (Or.inl (Nat.ne_of_lt (Nat.lt_of_lt_of_le A66.lt (Nat.le_of_eq g69.symm))))).other W76 (Or.inl (Nat.ne_of_lt (Nat.lt_of_lt_of_le A66.lt (Nat.le_of_eq g69.symm))))).other W79 (Or.inl (Nat.ne_of_lt (Nat.lt_of_lt_of_le A66.lt (Nat.le_of_eq g69.symm)))))
        have f87 : Old Z n0 h79 := (((((hO.ext E66).ext E69).wr W73 g_b69).wr W76 g_b69).wr W79 g_b69)
        have f88 : Safe Z own_EL s.vm h79 b66 := (Safe.wr W79 (Safe.arv hZ0.alike V76 (by decide)) R77.1 (Safe.wr W76 (Safe.arv hZ0.alike V73 (by decide)) R74.1 (Safe.wr W73 (Safe.arv hZ0.alike V69 (by decide)) R72.1 (Safe.ext E69 R68.1 (Safe.ext E66 R0.1 q_b66)))))
        obtain ⟨_, _, ⟨T82, L82, k82, n82⟩, -, X82, ⟨Lc82, hQ82, l82, y82, z82⟩, st82⟩ := X79.specialBack hx (y := (⟨"java/lang/String", "<init>", "([C)V"⟩ : MethodName)) rfl hown0 (mvT hZ0 (own_k hw 14 rfl)) (mvT hZ0 (own_k hw 15 rfl)) (mvT hZ0 (own_k hw 16 rfl)) (by decide) (StrChars.Road.backV (W := 1) hZ0 hws82 (kI := 4) (own_k hw 11 rfl) (cs := ([(nar .char ((q0 &&& (255 : Int32)).toUInt32.toUInt16.toUInt32.toInt32)), (nar .char ((((q0.toUInt32 >>> ((8 : Int32) &&& 31).toUInt32).toInt32) &&& (255 : Int32)).toUInt32.toUInt16.toUInt32.toInt32)), (nar .char ((((q0.toUInt32 >>> ((16 : Int32) &&& 31).toUInt32).toInt32) &&& (255 : Int32)).toUInt32.toUInt16.toUInt32.toInt32))] : List Int32)) (bs := (([(nar .char ((q0 &&& (255 : Int32)).toUInt32.toUInt16.toUInt32.toInt32)), (nar .char ((((q0.toUInt32 >>> ((8 : Int32) &&& 31).toUInt32).toInt32) &&& (255 : Int32)).toUInt32.toUInt16.toUInt32.toInt32)), (nar .char ((((q0.toUInt32 >>> ((16 : Int32) &&& 31).toUInt32).toInt32) &&& (255 : Int32)).toUInt32.toUInt16.toUInt32.toInt32))] : List Int32)).map (fun c => c.toInt8.toInt32)) (n := 3) g_b66 f83 f84 f85 f86 V79 (hS.ext f87.2) hG rfl rfl (by decide) (by decide) hp82 rfl (by decide) (by decide)) (g := (mkF m 114 #[.val (.int q0), .val (.int (((q0.toUInt32 >>> ((24 : Int32) &&& 31).toUInt32).toInt32) &&& (3 : Int32))), .val (.int ((q0 &&& (255 : Int32)).toUInt32.toUInt16.toUInt32.toInt32)), .val (.int ((((q0.toUInt32 >>> ((8 : Int32) &&& 31).toUInt32).toInt32) &&& (255 : Int32)).toUInt32.toUInt16.toUInt32.toInt32)), .val (.int ((((q0.toUInt32 >>> ((16 : Int32) &&& 31).toUInt32).toInt32) &&& (255 : Int32)).toUInt32.toUInt16.toUInt32.toInt32))] [(.ref b69), (.ref b66), (.ref b66)])) rfl (by rw [hml]; rfl) (Steps.refl _) (a := b66) (argsL := [(.ref b69)]) (rest := [(.ref b66)]) (lenOf own_pd_1 rfl) rfl (by show 2 * 0 + _ ≤ _; exact Nat.le_of_eq rfl) (hb hby d2_114) (fun _ _ => ⟨rfl, e79, (by decide : 2 + 1 ≤ _), (by decide : 7 + 3 ≤ _)⟩)
        dsimp only [Pt.U, Pt.locs, Pt.cells, Pt.slots] at X82 l82 y82 z82 st82 hQ82
        subst l82 y82 z82
        obtain ⟨rfl, Nq82, Kq82, pE82, pC82, t82, tk82, tg82, tl82, tne82, pV82, pA82⟩ := hQ82
        have N82 := Fr.app N79 Nq82
        have g_t82 : n0 ≤ t82 := Nat.le_trans f83 tl82
        have q_t82 : Safe Z own_EL s.vm h79 t82 := Safe.new tl82
        have sz_t82 : h0.size ≤ t82 := Nat.le_trans K81.1 tl82
        have R89 : CHr Z own_EL s.vm h0 s.vm T82.heap := R80.trans (CHr.keep Kq82 (sfS f88 sf0) R80.1)
        have K90 : Keep h0 T82.heap [] := K81.trans Kq82 (allS (Or.inr sz_b66) all0)
        have hcs : own_st q0 = [(q0 &&& (255 : Int32)), (((q0.toUInt32 >>> ((8 : Int32) &&& 31).toUInt32).toInt32) &&& (255 : Int32)), (((q0.toUInt32 >>> ((16 : Int32) &&& 31).toUInt32).toInt32) &&& (255 : Int32))] := by unfold own_st own_c3; rw [if_neg hcx2, if_neg hcx20, if_neg hcx42]
        have hRe := R89.trans (CHv.at X82 hZ0 hEL R89.1)
        rw [← hh] at hRe
        have f91 : h0.size ≤ T82.heap.size := (Nat.le_trans (Nat.le_trans (Nat.le_trans (Nat.le_trans (Nat.le_trans (Nat.le_trans Y0 E66.1) E69.1) (Keep.of_wr W73).1) (Keep.of_wr W76).1) (Keep.of_wr W79).1) Kq82.1)
        obtain ⟨fs, hr, hrun, hended, hend⟩ := X82.leaveW hS0 f91 (v := (some (.ref b66))) (fun h => by rw [Bd.returns] at h; cases h)
        refine ⟨_, _, pre41 _ ?_, hrun, hended, _, _, rfl, ?_, hRe, hend.1, hend.2.1, hend.2.2.1, hend.2.2.2.mono (by decide) (by decide)⟩
        · show Steps p.tables e below (s₁.setTop (mkF m 72 #[.val (.int q0), .val (.int (((q0.toUInt32 >>> ((24 : Int32) &&& 31).toUInt32).toInt32) &&& (3 : Int32))), .val (.int ((q0 &&& (255 : Int32)).toUInt32.toUInt16.toUInt32.toInt32)), .val (.int ((((q0.toUInt32 >>> ((8 : Int32) &&& 31).toUInt32).toInt32) &&& (255 : Int32)).toUInt32.toUInt16.toUInt32.toInt32)), .val (.int ((((q0.toUInt32 >>> ((16 : Int32) &&& 31).toUInt32).toInt32) &&& (255 : Int32)).toUInt32.toUInt16.toUInt32.toInt32))] [(.int (2 : Int32)), (.int (((q0.toUInt32 >>> ((24 : Int32) &&& 31).toUInt32).toInt32) &&& (3 : Int32)))])) _
          refine XS.icmpYes X0.here hx rfl (pc0 := 72) (pc' := 94) rfl (hb hby d2_72) rfl (feq hcx42).2 (by decide) (by decide) ?_
          show Steps p.tables e below (s₁.setTop (mkF m 94 #[.val (.int q0), .val (.int (((q0.toUInt32 >>> ((24 : Int32) &&& 31).toUInt32).toInt32) &&& (3 : Int32))), .val (.int ((q0 &&& (255 : Int32)).toUInt32.toUInt16.toUInt32.toInt32)), .val (.int ((((q0.toUInt32 >>> ((8 : Int32) &&& 31).toUInt32).toInt32) &&& (255 : Int32)).toUInt32.toUInt16.toUInt32.toInt32)), .val (.int ((((q0.toUInt32 >>> ((16 : Int32) &&& 31).toUInt32).toInt32) &&& (255 : Int32)).toUInt32.toUInt16.toUInt32.toInt32))] [])) _
          refine st66 _ ?_
          show Steps p.tables e below (T66.setTop (mkF m 97 #[.val (.int q0), .val (.int (((q0.toUInt32 >>> ((24 : Int32) &&& 31).toUInt32).toInt32) &&& (3 : Int32))), .val (.int ((q0 &&& (255 : Int32)).toUInt32.toUInt16.toUInt32.toInt32)), .val (.int ((((q0.toUInt32 >>> ((8 : Int32) &&& 31).toUInt32).toInt32) &&& (255 : Int32)).toUInt32.toUInt16.toUInt32.toInt32)), .val (.int ((((q0.toUInt32 >>> ((16 : Int32) &&& 31).toUInt32).toInt32) &&& (255 : Int32)).toUInt32.toUInt16.toUInt32.toInt32))] [(.ref b66)])) _
          refine XS.dup X66.here hx rfl (hb hby d2_97) rfl rfl ?_
          show Steps p.tables e below (T66.setTop (mkF m 98 #[.val (.int q0), .val (.int (((q0.toUInt32 >>> ((24 : Int32) &&& 31).toUInt32).toInt32) &&& (3 : Int32))), .val (.int ((q0 &&& (255 : Int32)).toUInt32.toUInt16.toUInt32.toInt32)), .val (.int ((((q0.toUInt32 >>> ((8 : Int32) &&& 31).toUInt32).toInt32) &&& (255 : Int32)).toUInt32.toUInt16.toUInt32.toInt32)), .val (.int ((((q0.toUInt32 >>> ((16 : Int32) &&& 31).toUInt32).toInt32) &&& (255 : Int32)).toUInt32.toUInt16.toUInt32.toInt32))] [(.ref b66), (.ref b66)])) _
          refine XS.iconst X66.here hx rfl (hb hby d2_98) ?_
          show Steps p.tables e below (T66.setTop (mkF m 99 #[.val (.int q0), .val (.int (((q0.toUInt32 >>> ((24 : Int32) &&& 31).toUInt32).toInt32) &&& (3 : Int32))), .val (.int ((q0 &&& (255 : Int32)).toUInt32.toUInt16.toUInt32.toInt32)), .val (.int ((((q0.toUInt32 >>> ((8 : Int32) &&& 31).toUInt32).toInt32) &&& (255 : Int32)).toUInt32.toUInt16.toUInt32.toInt32)), .val (.int ((((q0.toUInt32 >>> ((16 : Int32) &&& 31).toUInt32).toInt32) &&& (255 : Int32)).toUInt32.toUInt16.toUInt32.toInt32))] [(.int (3 : Int32)), (.ref b66), (.ref b66)])) _
          refine st69 _ ?_
          show Steps p.tables e below (T69.setTop (mkF m 101 #[.val (.int q0), .val (.int (((q0.toUInt32 >>> ((24 : Int32) &&& 31).toUInt32).toInt32) &&& (3 : Int32))), .val (.int ((q0 &&& (255 : Int32)).toUInt32.toUInt16.toUInt32.toInt32)), .val (.int ((((q0.toUInt32 >>> ((8 : Int32) &&& 31).toUInt32).toInt32) &&& (255 : Int32)).toUInt32.toUInt16.toUInt32.toInt32)), .val (.int ((((q0.toUInt32 >>> ((16 : Int32) &&& 31).toUInt32).toInt32) &&& (255 : Int32)).toUInt32.toUInt16.toUInt32.toInt32))] [(.ref b69), (.ref b66), (.ref b66)])) _
          refine XS.dup X69.here hx rfl (hb hby d2_101) rfl rfl ?_
          show Steps p.tables e below (T69.setTop (mkF m 102 #[.val (.int q0), .val (.int (((q0.toUInt32 >>> ((24 : Int32) &&& 31).toUInt32).toInt32) &&& (3 : Int32))), .val (.int ((q0 &&& (255 : Int32)).toUInt32.toUInt16.toUInt32.toInt32)), .val (.int ((((q0.toUInt32 >>> ((8 : Int32) &&& 31).toUInt32).toInt32) &&& (255 : Int32)).toUInt32.toUInt16.toUInt32.toInt32)), .val (.int ((((q0.toUInt32 >>> ((16 : Int32) &&& 31).toUInt32).toInt32) &&& (255 : Int32)).toUInt32.toUInt16.toUInt32.toInt32))] [(.ref b69), (.ref b69), (.ref b66), (.ref b66)])) _
          refine XS.iconst X69.here hx rfl (hb hby d2_102) ?_
          show Steps p.tables e below (T69.setTop (mkF m 103 #[.val (.int q0), .val (.int (((q0.toUInt32 >>> ((24 : Int32) &&& 31).toUInt32).toInt32) &&& (3 : Int32))), .val (.int ((q0 &&& (255 : Int32)).toUInt32.toUInt16.toUInt32.toInt32)), .val (.int ((((q0.toUInt32 >>> ((8 : Int32) &&& 31).toUInt32).toInt32) &&& (255 : Int32)).toUInt32.toUInt16.toUInt32.toInt32)), .val (.int ((((q0.toUInt32 >>> ((16 : Int32) &&& 31).toUInt32).toInt32) &&& (255 : Int32)).toUInt32.toUInt16.toUInt32.toInt32))] [(.int (0 : Int32)), (.ref b69), (.ref b69), (.ref b66), (.ref b66)])) _
          refine XS.iloadN X69.here hx rfl (hb hby d2_103) rfl ?_
          show Steps p.tables e below (T69.setTop (mkF m 104 #[.val (.int q0), .val (.int (((q0.toUInt32 >>> ((24 : Int32) &&& 31).toUInt32).toInt32) &&& (3 : Int32))), .val (.int ((q0 &&& (255 : Int32)).toUInt32.toUInt16.toUInt32.toInt32)), .val (.int ((((q0.toUInt32 >>> ((8 : Int32) &&& 31).toUInt32).toInt32) &&& (255 : Int32)).toUInt32.toUInt16.toUInt32.toInt32)), .val (.int ((((q0.toUInt32 >>> ((16 : Int32) &&& 31).toUInt32).toInt32) &&& (255 : Int32)).toUInt32.toUInt16.toUInt32.toInt32))] [(.int ((q0 &&& (255 : Int32)).toUInt32.toUInt16.toUInt32.toInt32)), (.int (0 : Int32)), (.ref b69), (.ref b69), (.ref b66), (.ref b66)])) _
          refine st73 _ ?_
          show Steps p.tables e below (T73.setTop (mkF m 105 #[.val (.int q0), .val (.int (((q0.toUInt32 >>> ((24 : Int32) &&& 31).toUInt32).toInt32) &&& (3 : Int32))), .val (.int ((q0 &&& (255 : Int32)).toUInt32.toUInt16.toUInt32.toInt32)), .val (.int ((((q0.toUInt32 >>> ((8 : Int32) &&& 31).toUInt32).toInt32) &&& (255 : Int32)).toUInt32.toUInt16.toUInt32.toInt32)), .val (.int ((((q0.toUInt32 >>> ((16 : Int32) &&& 31).toUInt32).toInt32) &&& (255 : Int32)).toUInt32.toUInt16.toUInt32.toInt32))] [(.ref b69), (.ref b66), (.ref b66)])) _
          refine XS.dup X73.here hx rfl (hb hby d2_105) rfl rfl ?_
          show Steps p.tables e below (T73.setTop (mkF m 106 #[.val (.int q0), .val (.int (((q0.toUInt32 >>> ((24 : Int32) &&& 31).toUInt32).toInt32) &&& (3 : Int32))), .val (.int ((q0 &&& (255 : Int32)).toUInt32.toUInt16.toUInt32.toInt32)), .val (.int ((((q0.toUInt32 >>> ((8 : Int32) &&& 31).toUInt32).toInt32) &&& (255 : Int32)).toUInt32.toUInt16.toUInt32.toInt32)), .val (.int ((((q0.toUInt32 >>> ((16 : Int32) &&& 31).toUInt32).toInt32) &&& (255 : Int32)).toUInt32.toUInt16.toUInt32.toInt32))] [(.ref b69), (.ref b69), (.ref b66), (.ref b66)])) _
          refine XS.iconst X73.here hx rfl (hb hby d2_106) ?_
          show Steps p.tables e below (T73.setTop (mkF m 107 #[.val (.int q0), .val (.int (((q0.toUInt32 >>> ((24 : Int32) &&& 31).toUInt32).toInt32) &&& (3 : Int32))), .val (.int ((q0 &&& (255 : Int32)).toUInt32.toUInt16.toUInt32.toInt32)), .val (.int ((((q0.toUInt32 >>> ((8 : Int32) &&& 31).toUInt32).toInt32) &&& (255 : Int32)).toUInt32.toUInt16.toUInt32.toInt32)), .val (.int ((((q0.toUInt32 >>> ((16 : Int32) &&& 31).toUInt32).toInt32) &&& (255 : Int32)).toUInt32.toUInt16.toUInt32.toInt32))] [(.int (1 : Int32)), (.ref b69), (.ref b69), (.ref b66), (.ref b66)])) _
          refine XS.iloadN X73.here hx rfl (hb hby d2_107) rfl ?_
          show Steps p.tables e below (T73.setTop (mkF m 108 #[.val (.int q0), .val (.int (((q0.toUInt32 >>> ((24 : Int32) &&& 31).toUInt32).toInt32) &&& (3 : Int32))), .val (.int ((q0 &&& (255 : Int32)).toUInt32.toUInt16.toUInt32.toInt32)), .val (.int ((((q0.toUInt32 >>> ((8 : Int32) &&& 31).toUInt32).toInt32) &&& (255 : Int32)).toUInt32.toUInt16.toUInt32.toInt32)), .val (.int ((((q0.toUInt32 >>> ((16 : Int32) &&& 31).toUInt32).toInt32) &&& (255 : Int32)).toUInt32.toUInt16.toUInt32.toInt32))] [(.int ((((q0.toUInt32 >>> ((8 : Int32) &&& 31).toUInt32).toInt32) &&& (255 : Int32)).toUInt32.toUInt16.toUInt32.toInt32)), (.int (1 : Int32)), (.ref b69), (.ref b69), (.ref b66), (.ref b66)])) _
          refine st76 _ ?_
          show Steps p.tables e below (T76.setTop (mkF m 109 #[.val (.int q0), .val (.int (((q0.toUInt32 >>> ((24 : Int32) &&& 31).toUInt32).toInt32) &&& (3 : Int32))), .val (.int ((q0 &&& (255 : Int32)).toUInt32.toUInt16.toUInt32.toInt32)), .val (.int ((((q0.toUInt32 >>> ((8 : Int32) &&& 31).toUInt32).toInt32) &&& (255 : Int32)).toUInt32.toUInt16.toUInt32.toInt32)), .val (.int ((((q0.toUInt32 >>> ((16 : Int32) &&& 31).toUInt32).toInt32) &&& (255 : Int32)).toUInt32.toUInt16.toUInt32.toInt32))] [(.ref b69), (.ref b66), (.ref b66)])) _
          refine XS.dup X76.here hx rfl (hb hby d2_109) rfl rfl ?_
          show Steps p.tables e below (T76.setTop (mkF m 110 #[.val (.int q0), .val (.int (((q0.toUInt32 >>> ((24 : Int32) &&& 31).toUInt32).toInt32) &&& (3 : Int32))), .val (.int ((q0 &&& (255 : Int32)).toUInt32.toUInt16.toUInt32.toInt32)), .val (.int ((((q0.toUInt32 >>> ((8 : Int32) &&& 31).toUInt32).toInt32) &&& (255 : Int32)).toUInt32.toUInt16.toUInt32.toInt32)), .val (.int ((((q0.toUInt32 >>> ((16 : Int32) &&& 31).toUInt32).toInt32) &&& (255 : Int32)).toUInt32.toUInt16.toUInt32.toInt32))] [(.ref b69), (.ref b69), (.ref b66), (.ref b66)])) _
          refine XS.iconst X76.here hx rfl (hb hby d2_110) ?_
          show Steps p.tables e below (T76.setTop (mkF m 111 #[.val (.int q0), .val (.int (((q0.toUInt32 >>> ((24 : Int32) &&& 31).toUInt32).toInt32) &&& (3 : Int32))), .val (.int ((q0 &&& (255 : Int32)).toUInt32.toUInt16.toUInt32.toInt32)), .val (.int ((((q0.toUInt32 >>> ((8 : Int32) &&& 31).toUInt32).toInt32) &&& (255 : Int32)).toUInt32.toUInt16.toUInt32.toInt32)), .val (.int ((((q0.toUInt32 >>> ((16 : Int32) &&& 31).toUInt32).toInt32) &&& (255 : Int32)).toUInt32.toUInt16.toUInt32.toInt32))] [(.int (2 : Int32)), (.ref b69), (.ref b69), (.ref b66), (.ref b66)])) _
          refine XS.iload X76.here hx rfl (hb hby d2_111) rfl ?_
          show Steps p.tables e below (T76.setTop (mkF m 113 #[.val (.int q0), .val (.int (((q0.toUInt32 >>> ((24 : Int32) &&& 31).toUInt32).toInt32) &&& (3 : Int32))), .val (.int ((q0 &&& (255 : Int32)).toUInt32.toUInt16.toUInt32.toInt32)), .val (.int ((((q0.toUInt32 >>> ((8 : Int32) &&& 31).toUInt32).toInt32) &&& (255 : Int32)).toUInt32.toUInt16.toUInt32.toInt32)), .val (.int ((((q0.toUInt32 >>> ((16 : Int32) &&& 31).toUInt32).toInt32) &&& (255 : Int32)).toUInt32.toUInt16.toUInt32.toInt32))] [(.int ((((q0.toUInt32 >>> ((16 : Int32) &&& 31).toUInt32).toInt32) &&& (255 : Int32)).toUInt32.toUInt16.toUInt32.toInt32)), (.int (2 : Int32)), (.ref b69), (.ref b69), (.ref b66), (.ref b66)])) _
          refine st79 _ ?_
          show Steps p.tables e below (T79.setTop (mkF m 114 #[.val (.int q0), .val (.int (((q0.toUInt32 >>> ((24 : Int32) &&& 31).toUInt32).toInt32) &&& (3 : Int32))), .val (.int ((q0 &&& (255 : Int32)).toUInt32.toUInt16.toUInt32.toInt32)), .val (.int ((((q0.toUInt32 >>> ((8 : Int32) &&& 31).toUInt32).toInt32) &&& (255 : Int32)).toUInt32.toUInt16.toUInt32.toInt32)), .val (.int ((((q0.toUInt32 >>> ((16 : Int32) &&& 31).toUInt32).toInt32) &&& (255 : Int32)).toUInt32.toUInt16.toUInt32.toInt32))] [(.ref b69), (.ref b66), (.ref b66)])) _
          refine st82.trans ?_
          show Steps p.tables e below (T82.setTop (mkF m 117 #[.val (.int q0), .val (.int (((q0.toUInt32 >>> ((24 : Int32) &&& 31).toUInt32).toInt32) &&& (3 : Int32))), .val (.int ((q0 &&& (255 : Int32)).toUInt32.toUInt16.toUInt32.toInt32)), .val (.int ((((q0.toUInt32 >>> ((8 : Int32) &&& 31).toUInt32).toInt32) &&& (255 : Int32)).toUInt32.toUInt16.toUInt32.toInt32)), .val (.int ((((q0.toUInt32 >>> ((16 : Int32) &&& 31).toUInt32).toInt32) &&& (255 : Int32)).toUInt32.toUInt16.toUInt32.toInt32))] [(.ref b66)])) _
          exact retOut X82 hx Bd.returns rfl (Or.inr (Or.inr (Or.inr (Or.inr ⟨rfl, rfl, rfl⟩)))) (hb hby d2_117) hr
        · show Qstr Z q0 G1 h0 n0 _ T82.heap _
          exact ⟨b66, t82, tk82, N82, K90, sz_b66, pE82, pC82, pV82, (by rw [hcs]; have q := pA82; rw [own_nm q0, own_nm ((q0.toUInt32 >>> ((8 : Int32) &&& 31).toUInt32).toInt32), own_nm ((q0.toUInt32 >>> ((16 : Int32) &&& 31).toUInt32).toInt32)] at q; exact q), trivial, rfl⟩
theorem d1_0 : decode method_3_code 0 = .ok (.iload_n 0, 1) := by decide +kernel
theorem d1_1 : decode method_3_code 1 = .ok (.ifCond .ne 7, 3) := by decide +kernel
theorem d1_4 : decode method_3_code 4 = .ok (.getstatic 30, 3) := by decide +kernel
theorem d1_7 : decode method_3_code 7 = .ok (.areturn, 1) := by decide +kernel
theorem d1_8 : decode method_3_code 8 = .ok (.iload_n 0, 1) := by decide +kernel
theorem d1_9 : decode method_3_code 9 = .ok (.iconst 1, 1) := by decide +kernel
theorem d1_10 : decode method_3_code 10 = .ok (.if_icmp .ne 7, 3) := by decide +kernel
theorem d1_13 : decode method_3_code 13 = .ok (.getstatic 36, 3) := by decide +kernel
theorem d1_16 : decode method_3_code 16 = .ok (.areturn, 1) := by decide +kernel
theorem d1_17 : decode method_3_code 17 = .ok (.iload_n 0, 1) := by decide +kernel
theorem d1_18 : decode method_3_code 18 = .ok (.iconst 2, 1) := by decide +kernel
theorem d1_19 : decode method_3_code 19 = .ok (.if_icmp .ne 7, 3) := by decide +kernel
theorem d1_22 : decode method_3_code 22 = .ok (.getstatic 39, 3) := by decide +kernel
theorem d1_25 : decode method_3_code 25 = .ok (.areturn, 1) := by decide +kernel
theorem d1_26 : decode method_3_code 26 = .ok (.getstatic 42, 3) := by decide +kernel
theorem d1_29 : decode method_3_code 29 = .ok (.areturn, 1) := by decide +kernel
theorem ef_beh (m : MethodId) (q0 : Int32) : entryFrame m #[(.int q0)] 1 = mkF m 0 #[.val (.int q0)] [] := by first | (simp [entryFrame, mkF, argsToLocals, Value.category]; done) | rfl
def Qbeh (Z : State) (q0 : Int32) (u0 : Addr) (u1 : Addr) (u2 : Addr) (u3 : Addr) (h0 : Heap) (n0 : Nat) (v : Option Value) (h : Heap) (L : List Loc) : Prop := ∃ (rr : Addr), Fr n0 L ∧ h = h0 ∧ (v = some (.ref rr))
set_option maxRecDepth 65536 in
set_option maxHeartbeats 40000000 in
theorem rmBeh (l : Launch) (Z : State) (a0 : Array Value) (hw : ∀ d ∈ tables_1, d.before a0 Z = true) (ws : List Jvm.Cond) (q0 : Int32) (u0 : Addr) (u1 : Addr) (u2 : Addr) (u3 : Addr) (h0 : Heap) (n0 : Nat) (Z0 : n0 ≤ h0.size) (hU0 : Sta Z Z.heap "com/example/wudaokou/wudaokou/model/Behaviour" "LOCATION" "Lcom/example/wudaokou/wudaokou/model/Behaviour;" (.ref u0)) (hU1 : Sta Z Z.heap "com/example/wudaokou/wudaokou/model/Behaviour" "CONTACTS" "Lcom/example/wudaokou/wudaokou/model/Behaviour;" (.ref u1)) (hU2 : Sta Z Z.heap "com/example/wudaokou/wudaokou/model/Behaviour" "CALL_LOG" "Lcom/example/wudaokou/wudaokou/model/Behaviour;" (.ref u2)) (hU3 : Sta Z Z.heap "com/example/wudaokou/wudaokou/model/Behaviour" "CONTENT" "Lcom/example/wudaokou/wudaokou/model/Behaviour;" (.ref u3)) (hO : Old Z n0 h0) :
    MetFree l (⟨"com/example/wudaokou/wudaokou/model/SensitiveCallIsNamedByPinLaw", "behaviour", "(I)Lcom/example/wudaokou/wudaokou/model/Behaviour;"⟩ : MethodName) (head1 (Jvm.Cond.code (⟨"com/example/wudaokou/wudaokou/model/SensitiveCallIsNamedByPinLaw", "behaviour", "(I)Lcom/example/wudaokou/wudaokou/model/Behaviour;"⟩ : MethodName) method_3_code 1 (some (.object "com/example/wudaokou/wudaokou/model/Behaviour")) :: ws) ({ frames := 0, cells := 0, slots := 0, locals := 0 } : Room)) (fun a U => a = #[(.int q0)] ∧ Z.Warmed39 U.vm ∧ U.heap = h0) (fun _ _ _ _ _ => True) (fun _ U o U' => ∃ v L, o = .returned v ∧ Qbeh Z q0 u0 u1 u2 u3 h0 n0 v U'.heap L ∧ FrameEnd U o U' L ({ frames := 0, cells := 0, slots := 0, locals := 0 } : Room).cells ({ frames := 0, cells := 0, slots := 0, locals := 0 } : Room).slots) := by
  refine MetFree.of_bodySF (plainFor_of_name own_pn_1) hisR ?_
  intro p e s m args below meth c s₁ Bd hml0 hP hK
  obtain ⟨rfl, hZ, hh⟩ := hP
  have hx := Bd.exec
  have hby := Bd.bytes
  have hml : c.maxLocals = 1 := hml0
  have hown : s.vm.findClass "com/example/wudaokou/wudaokou/model/SensitiveCallIsNamedByPinLaw" = some m.cls := findClass_of_methodNamed Bd.named
  have hnm := (name_of_methodNamed Bd.named Bd.method).1
  have X0 : Stand p l e ({ frames := 0, cells := 0, slots := 0, locals := 0 } : Room) s m #[(.int q0)] below meth c s₁ [] 0 0 := Stand.of_body Bd
  have e0 : s₁.heap = h0 := by rw [← hh, Bd.state]; rfl
  have N0 := Fr.nil n0
  have pre0 : ∀ t, Steps p.tables e below (s₁.setTop (mkF m 0 #[.val (.int q0)] [])) t → Steps p.tables e below (s₁.setTop (entryFrame m #[(.int q0)] 1)) t := fun t k => castTop (ef_beh m q0) k
  have pre1 : ∀ t, Steps p.tables e below (s₁.setTop (mkF m 1 #[.val (.int q0)] [(.int q0)])) t → Steps p.tables e below (s₁.setTop (entryFrame m #[(.int q0)] 1)) t := fun t kt => pre0 t (by
    show Steps p.tables e below (s₁.setTop (mkF m 0 #[.val (.int q0)] [])) _
    refine XS.iloadN X0.here hx rfl (hb hby d1_0) rfl ?_
    exact kt)
  by_cases hcx2 : q0 = (0 : Int32)
  · skip
    obtain ⟨T3, X3, e3, st3⟩ := getS2 X0 hx hZ hown (host := "") (Or.inl (own_k hw 4 rfl)) Via.refl e0 (hU0.ext hO.2) (g := (mkF m 4 #[.val (.int q0)] [])) rfl (hb hby d1_4)
    obtain ⟨fs, hr, hrun, hended, hW, hsame⟩ := X3.leave (v := (some (.ref u0))) (fun h => by rw [Bd.returns] at h; cases h)
    refine ⟨_, _, pre1 _ ?_, hrun, hended, _, _, rfl, ?_, ⟨_, rfl⟩, hW, hsame.mono (by decide) (by decide)⟩
    · show Steps p.tables e below (s₁.setTop (mkF m 1 #[.val (.int q0)] [(.int q0)])) _
      refine XS.ifNo X0.here hx rfl (hb hby d1_1) rfl ((if0 _ _).trans (teq hcx2).2) ?_
      show Steps p.tables e below (s₁.setTop (mkF m 4 #[.val (.int q0)] [])) _
      refine st3 _ ?_
      show Steps p.tables e below (T3.setTop (mkF m 7 #[.val (.int q0)] [(.ref u0)])) _
      exact retOut X3 hx Bd.returns rfl (Or.inr (Or.inr (Or.inr (Or.inr ⟨rfl, rfl, rfl⟩)))) (hb hby d1_7) hr
    · show Qbeh Z q0 u0 u1 u2 u3 h0 n0 _ T3.heap _
      rw [e3]
      exact ⟨u0, N0, rfl, rfl⟩
  · skip
    have pre4 : ∀ t, Steps p.tables e below (s₁.setTop (mkF m 10 #[.val (.int q0)] [(.int (1 : Int32)), (.int q0)])) t → Steps p.tables e below (s₁.setTop (entryFrame m #[(.int q0)] 1)) t := fun t kt => pre1 t (by
      show Steps p.tables e below (s₁.setTop (mkF m 1 #[.val (.int q0)] [(.int q0)])) _
      refine XS.ifYes X0.here hx rfl (pc0 := 1) (pc' := 8) rfl (hb hby d1_1) rfl ((if0 _ _).trans (feq hcx2).2) (by decide) (by decide) ?_
      show Steps p.tables e below (s₁.setTop (mkF m 8 #[.val (.int q0)] [])) _
      refine XS.iloadN X0.here hx rfl (hb hby d1_8) rfl ?_
      show Steps p.tables e below (s₁.setTop (mkF m 9 #[.val (.int q0)] [(.int q0)])) _
      refine XS.iconst X0.here hx rfl (hb hby d1_9) ?_
      exact kt)
    by_cases hcx5 : q0 = (1 : Int32)
    · skip
      obtain ⟨T6, X6, e6, st6⟩ := getS2 X0 hx hZ hown (host := "") (Or.inl (own_k hw 71 rfl)) Via.refl e0 (hU1.ext hO.2) (g := (mkF m 13 #[.val (.int q0)] [])) rfl (hb hby d1_13)
      obtain ⟨fs, hr, hrun, hended, hW, hsame⟩ := X6.leave (v := (some (.ref u1))) (fun h => by rw [Bd.returns] at h; cases h)
      refine ⟨_, _, pre4 _ ?_, hrun, hended, _, _, rfl, ?_, ⟨_, rfl⟩, hW, hsame.mono (by decide) (by decide)⟩
      · show Steps p.tables e below (s₁.setTop (mkF m 10 #[.val (.int q0)] [(.int (1 : Int32)), (.int q0)])) _
        refine XS.icmpNo X0.here hx rfl (hb hby d1_10) rfl (teq hcx5).2 ?_
        show Steps p.tables e below (s₁.setTop (mkF m 13 #[.val (.int q0)] [])) _
        refine st6 _ ?_
        show Steps p.tables e below (T6.setTop (mkF m 16 #[.val (.int q0)] [(.ref u1)])) _
        exact retOut X6 hx Bd.returns rfl (Or.inr (Or.inr (Or.inr (Or.inr ⟨rfl, rfl, rfl⟩)))) (hb hby d1_16) hr
      · show Qbeh Z q0 u0 u1 u2 u3 h0 n0 _ T6.heap _
        rw [e6]
        exact ⟨u1, N0, rfl, rfl⟩
    · skip
      have pre7 : ∀ t, Steps p.tables e below (s₁.setTop (mkF m 19 #[.val (.int q0)] [(.int (2 : Int32)), (.int q0)])) t → Steps p.tables e below (s₁.setTop (entryFrame m #[(.int q0)] 1)) t := fun t kt => pre4 t (by
        show Steps p.tables e below (s₁.setTop (mkF m 10 #[.val (.int q0)] [(.int (1 : Int32)), (.int q0)])) _
        refine XS.icmpYes X0.here hx rfl (pc0 := 10) (pc' := 17) rfl (hb hby d1_10) rfl (feq hcx5).2 (by decide) (by decide) ?_
        show Steps p.tables e below (s₁.setTop (mkF m 17 #[.val (.int q0)] [])) _
        refine XS.iloadN X0.here hx rfl (hb hby d1_17) rfl ?_
        show Steps p.tables e below (s₁.setTop (mkF m 18 #[.val (.int q0)] [(.int q0)])) _
        refine XS.iconst X0.here hx rfl (hb hby d1_18) ?_
        exact kt)
      by_cases hcx8 : q0 = (2 : Int32)
      · skip
        obtain ⟨T9, X9, e9, st9⟩ := getS2 X0 hx hZ hown (host := "") (Or.inl (own_k hw 73 rfl)) Via.refl e0 (hU2.ext hO.2) (g := (mkF m 22 #[.val (.int q0)] [])) rfl (hb hby d1_22)
        obtain ⟨fs, hr, hrun, hended, hW, hsame⟩ := X9.leave (v := (some (.ref u2))) (fun h => by rw [Bd.returns] at h; cases h)
        refine ⟨_, _, pre7 _ ?_, hrun, hended, _, _, rfl, ?_, ⟨_, rfl⟩, hW, hsame.mono (by decide) (by decide)⟩
        · show Steps p.tables e below (s₁.setTop (mkF m 19 #[.val (.int q0)] [(.int (2 : Int32)), (.int q0)])) _
          refine XS.icmpNo X0.here hx rfl (hb hby d1_19) rfl (teq hcx8).2 ?_
          show Steps p.tables e below (s₁.setTop (mkF m 22 #[.val (.int q0)] [])) _
          refine st9 _ ?_
          show Steps p.tables e below (T9.setTop (mkF m 25 #[.val (.int q0)] [(.ref u2)])) _
          exact retOut X9 hx Bd.returns rfl (Or.inr (Or.inr (Or.inr (Or.inr ⟨rfl, rfl, rfl⟩)))) (hb hby d1_25) hr
        · show Qbeh Z q0 u0 u1 u2 u3 h0 n0 _ T9.heap _
          rw [e9]
          exact ⟨u2, N0, rfl, rfl⟩
      · skip
        obtain ⟨T10, X10, e10, st10⟩ := getS2 X0 hx hZ hown (host := "") (Or.inl (own_k hw 85 rfl)) Via.refl e0 (hU3.ext hO.2) (g := (mkF m 26 #[.val (.int q0)] [])) rfl (hb hby d1_26)
        obtain ⟨fs, hr, hrun, hended, hW, hsame⟩ := X10.leave (v := (some (.ref u3))) (fun h => by rw [Bd.returns] at h; cases h)
        refine ⟨_, _, pre7 _ ?_, hrun, hended, _, _, rfl, ?_, ⟨_, rfl⟩, hW, hsame.mono (by decide) (by decide)⟩
        · show Steps p.tables e below (s₁.setTop (mkF m 19 #[.val (.int q0)] [(.int (2 : Int32)), (.int q0)])) _
          refine XS.icmpYes X0.here hx rfl (pc0 := 19) (pc' := 26) rfl (hb hby d1_19) rfl (feq hcx8).2 (by decide) (by decide) ?_
          show Steps p.tables e below (s₁.setTop (mkF m 26 #[.val (.int q0)] [])) _
          refine st10 _ ?_
          show Steps p.tables e below (T10.setTop (mkF m 29 #[.val (.int q0)] [(.ref u3)])) _
          exact retOut X10 hx Bd.returns rfl (Or.inr (Or.inr (Or.inr (Or.inr ⟨rfl, rfl, rfl⟩)))) (hb hby d1_29) hr
        · show Qbeh Z q0 u0 u1 u2 u3 h0 n0 _ T10.heap _
          rw [e10]
          exact ⟨u3, N0, rfl, rfl⟩
theorem own_pn_2 : plainName "java/lang/Record" = true := by first | (simp [plainName, overriddenIn]; done) | decide +kernel
theorem d7_0 : decode jdk_30_method_1_code 0 = .ok (.aload_n 0, 1) := by decide +kernel
theorem d7_1 : decode jdk_30_method_1_code 1 = .ok (.invokespecial 1, 3) := by decide +kernel
theorem d7_4 : decode jdk_30_method_1_code 4 = .ok (.return_, 1) := by decide +kernel
theorem ef_rec (m : MethodId) (a1 : Addr) : entryFrame m #[(.ref a1)] 1 = mkF m 0 #[.val (.ref a1)] [] := by first | (simp [entryFrame, mkF, argsToLocals, Value.category]; done) | rfl
def Qrec (Z : State) (a1 : Addr) (h0 : Heap) (n0 : Nat) (v : Option Value) (h : Heap) (L : List Loc) : Prop := Fr n0 L ∧ h = h0 ∧ (v = none)
set_option maxRecDepth 65536 in
set_option maxHeartbeats 40000000 in
theorem rmRec (l : Launch) (Z : State) (a0 : Array Value) (hw : ∀ d ∈ tables_1, d.before a0 Z = true) (ws : List Jvm.Cond) (a1 : Addr) (h0 : Heap) (n0 : Nat) (Z0 : n0 ≤ h0.size)  :
    MetFree l (⟨"java/lang/Record", "<init>", "()V"⟩ : MethodName) (head1 (Jvm.Cond.code (⟨"java/lang/Record", "<init>", "()V"⟩ : MethodName) jdk_30_method_1_code 1 none :: ws) ({ frames := 1, cells := 0, slots := 0, locals := 12 } : Room)) (fun a U => a = #[(.ref a1)] ∧ Z.Warmed39 U.vm ∧ U.heap = h0) (fun _ _ _ _ _ => True) (fun _ U o U' => ∃ v L, o = .returned v ∧ Qrec Z a1 h0 n0 v U'.heap L ∧ FrameEnd U o U' L ({ frames := 1, cells := 0, slots := 0, locals := 12 } : Room).cells ({ frames := 1, cells := 0, slots := 0, locals := 12 } : Room).slots) := by
  refine MetFree.of_bodySF (plainFor_of_name own_pn_2) hisR ?_
  intro p e s m args below meth c s₁ Bd hml0 hP hK
  obtain ⟨rfl, hZ, hh⟩ := hP
  have hx := Bd.exec
  have hby := Bd.bytes
  have hml : c.maxLocals = 1 := hml0
  have hown : s.vm.findClass "java/lang/Record" = some m.cls := findClass_of_methodNamed Bd.named
  have hnm := (name_of_methodNamed Bd.named Bd.method).1
  have X0 : Stand p l e ({ frames := 1, cells := 0, slots := 0, locals := 12 } : Room) s m #[(.ref a1)] below meth c s₁ [] 0 0 := Stand.of_body Bd
  have e0 : s₁.heap = h0 := by rw [← hh, Bd.state]; rfl
  have N0 := Fr.nil n0
  have pre0 : ∀ t, Steps p.tables e below (s₁.setTop (mkF m 0 #[.val (.ref a1)] [])) t → Steps p.tables e below (s₁.setTop (entryFrame m #[(.ref a1)] 1)) t := fun t k => castTop (ef_rec m a1) k
  obtain ⟨T1, X1, e1, st1⟩ := initO X0 hx hZ hown (own_k hw 43 rfl) (own_k hw 22 rfl) (own_k hw 23 rfl) e0 (g := (mkF m 1 #[.val (.ref a1)] [(.ref a1)])) rfl (by rw [hml]; rfl) rfl (hb hby d7_1) (by decide) (W := 0) (by show 2 * 0 + _ ≤ _; exact Nat.le_of_eq rfl) (by decide)
  obtain ⟨fs, hr, hrun, hended, hW, hsame⟩ := X1.leave (v := none) (fun _ => rfl)
  refine ⟨_, _, pre0 _ ?_, hrun, hended, _, _, rfl, ?_, ⟨_, rfl⟩, hW, hsame.mono (by decide) (by decide)⟩
  · show Steps p.tables e below (s₁.setTop (mkF m 0 #[.val (.ref a1)] [])) _
    refine XS.aloadN X0.here hx rfl (hb hby d7_0) rfl rfl ?_
    show Steps p.tables e below (s₁.setTop (mkF m 1 #[.val (.ref a1)] [(.ref a1)])) _
    refine st1 _ ?_
    show Steps p.tables e below (T1.setTop (mkF m 4 #[.val (.ref a1)] [])) _
    exact X1.returnOut hx Bd.returns (hb hby d7_4) hr
  · show Qrec Z a1 h0 n0 _ T1.heap _
    rw [e1]
    exact ⟨N0, rfl, rfl⟩
theorem own_pn_3 : plainName "com/example/wudaokou/wudaokou/model/SensitiveCall" = true := by first | (simp [plainName, overriddenIn]; done) | decide +kernel
theorem d6_0 : decode prog_16_method_1_code 0 = .ok (.aload_n 0, 1) := by decide +kernel
theorem d6_1 : decode prog_16_method_1_code 1 = .ok (.invokespecial 1, 3) := by decide +kernel
theorem own_pd_2 : parseMethodDescriptor "()V" = some ⟨[], none⟩ := by decide +kernel
theorem d6_4 : decode prog_16_method_1_code 4 = .ok (.aload_n 0, 1) := by decide +kernel
theorem d6_5 : decode prog_16_method_1_code 5 = .ok (.aload_n 1, 1) := by decide +kernel
theorem d6_6 : decode prog_16_method_1_code 6 = .ok (.putfield 7, 3) := by decide +kernel
theorem d6_9 : decode prog_16_method_1_code 9 = .ok (.aload_n 0, 1) := by decide +kernel
theorem d6_10 : decode prog_16_method_1_code 10 = .ok (.aload_n 2, 1) := by decide +kernel
theorem d6_11 : decode prog_16_method_1_code 11 = .ok (.putfield 13, 3) := by decide +kernel
theorem d6_14 : decode prog_16_method_1_code 14 = .ok (.aload_n 0, 1) := by decide +kernel
theorem d6_15 : decode prog_16_method_1_code 15 = .ok (.aload_n 3, 1) := by decide +kernel
theorem d6_16 : decode prog_16_method_1_code 16 = .ok (.putfield 17, 3) := by decide +kernel
theorem d6_19 : decode prog_16_method_1_code 19 = .ok (.aload_n 0, 1) := by decide +kernel
theorem d6_20 : decode prog_16_method_1_code 20 = .ok (.aload 4, 2) := by decide +kernel
theorem d6_22 : decode prog_16_method_1_code 22 = .ok (.putfield 20, 3) := by decide +kernel
theorem d6_25 : decode prog_16_method_1_code 25 = .ok (.return_, 1) := by decide +kernel
theorem ef_ini0 (m : MethodId) (a1 : Addr) (a2 : Addr) (a3 : Addr) (a4 : Addr) (a5 : Addr) : entryFrame m #[(.ref a1), (.ref a2), (.ref a3), (.ref a4), (.ref a5)] 5 = mkF m 0 #[.val (.ref a1), .val (.ref a2), .val (.ref a3), .val (.ref a4), .val (.ref a5)] [] := by first | (simp [entryFrame, mkF, argsToLocals, Value.category]; done) | rfl
def Qini0 (Z : State) (a1 : Addr) (a2 : Addr) (a3 : Addr) (a4 : Addr) (a5 : Addr) (h0 : Heap) (n0 : Nat) (v : Option Value) (h : Heap) (L : List Loc) : Prop := Fr n0 L ∧ Keep h0 h [a1] ∧ Exa Z h a1 "com/example/wudaokou/wudaokou/model/SensitiveCall" ∧ Fld Z h a1 "com/example/wudaokou/wudaokou/model/SensitiveCall" "declaringType" "Ljava/lang/String;" (.ref a3) ∧ Fld Z h a1 "com/example/wudaokou/wudaokou/model/SensitiveCall" "methodName" "Ljava/lang/String;" (.ref a4) ∧ (v = none)
set_option maxRecDepth 65536 in
set_option maxHeartbeats 40000000 in
theorem rmInit0 (l : Launch) (Z : State) (a0 : Array Value) (hw : ∀ d ∈ tables_1, d.before a0 Z = true) (ws : List Jvm.Cond) (a1 : Addr) (a2 : Addr) (a3 : Addr) (a4 : Addr) (a5 : Addr) (h0 : Heap) (n0 : Nat) (Z0 : n0 ≤ h0.size) (hE : Exa Z h0 a1 "com/example/wudaokou/wudaokou/model/SensitiveCall") (hF1 : Fld Z h0 a1 "com/example/wudaokou/wudaokou/model/SensitiveCall" "behaviour" "Lcom/example/wudaokou/wudaokou/model/Behaviour;" .null) (hF2 : Fld Z h0 a1 "com/example/wudaokou/wudaokou/model/SensitiveCall" "declaringType" "Ljava/lang/String;" .null) (hF3 : Fld Z h0 a1 "com/example/wudaokou/wudaokou/model/SensitiveCall" "methodName" "Ljava/lang/String;" .null) (hF4 : Fld Z h0 a1 "com/example/wudaokou/wudaokou/model/SensitiveCall" "guard" "Ljava/lang/String;" .null) (hG1 : n0 ≤ a1) :
    MetFree l (⟨"com/example/wudaokou/wudaokou/model/SensitiveCall", "<init>", "(Lcom/example/wudaokou/wudaokou/model/Behaviour;Ljava/lang/String;Ljava/lang/String;Ljava/lang/String;)V"⟩ : MethodName) (head1 (Jvm.Cond.code (⟨"com/example/wudaokou/wudaokou/model/SensitiveCall", "<init>", "(Lcom/example/wudaokou/wudaokou/model/Behaviour;Ljava/lang/String;Ljava/lang/String;Ljava/lang/String;)V"⟩ : MethodName) prog_16_method_1_code 5 none :: ws) ({ frames := 2, cells := 0, slots := 0, locals := 24 } : Room)) (fun a U => a = #[(.ref a1), (.ref a2), (.ref a3), (.ref a4), (.ref a5)] ∧ Z.Warmed39 U.vm ∧ U.heap = h0) (fun _ _ _ _ _ => True) (fun _ U o U' => ∃ v L, o = .returned v ∧ Qini0 Z a1 a2 a3 a4 a5 h0 n0 v U'.heap L ∧ FrameEnd U o U' L ({ frames := 2, cells := 0, slots := 0, locals := 24 } : Room).cells ({ frames := 2, cells := 0, slots := 0, locals := 24 } : Room).slots) := by
  refine MetFree.of_bodySF (plainFor_of_name own_pn_3) hisR ?_
  intro p e s m args below meth c s₁ Bd hml0 hP hK
  obtain ⟨rfl, hZ, hh⟩ := hP
  have hx := Bd.exec
  have hby := Bd.bytes
  have hml : c.maxLocals = 5 := hml0
  have hown : s.vm.findClass "com/example/wudaokou/wudaokou/model/SensitiveCall" = some m.cls := findClass_of_methodNamed Bd.named
  have hnm := (name_of_methodNamed Bd.named Bd.method).1
  have X0 : Stand p l e ({ frames := 2, cells := 0, slots := 0, locals := 24 } : Room) s m #[(.ref a1), (.ref a2), (.ref a3), (.ref a4), (.ref a5)] below meth c s₁ [] 0 0 := Stand.of_body Bd
  have e0 : s₁.heap = h0 := by rw [← hh, Bd.state]; rfl
  have N0 := Fr.nil n0
  have pre0 : ∀ t, Steps p.tables e below (s₁.setTop (mkF m 0 #[.val (.ref a1), .val (.ref a2), .val (.ref a3), .val (.ref a4), .val (.ref a5)] [])) t → Steps p.tables e below (s₁.setTop (entryFrame m #[(.ref a1), (.ref a2), (.ref a3), (.ref a4), (.ref a5)] 5)) t := fun t k => castTop (ef_ini0 m a1 a2 a3 a4 a5) k
  obtain ⟨_, _, ⟨T1, L1, k1, n1⟩, -, X1, ⟨Lc1, hQ1, l1, y1, z1⟩, st1⟩ := X0.specialBack hx (y := (⟨"java/lang/Record", "<init>", "()V"⟩ : MethodName)) rfl hown (mvT hZ (own_k hw 38 rfl)) (mvT hZ (own_k hw 39 rfl)) (mvT hZ (own_k hw 42 rfl)) (by decide) (backOf (W := 0) (rmRec l Z a0 hw [] a1 h0 n0 Z0 ) hZ (own_k hw 42 rfl) (own_k hw 41 rfl) (by decide) (by decide)) (g := (mkF m 1 #[.val (.ref a1), .val (.ref a2), .val (.ref a3), .val (.ref a4), .val (.ref a5)] [(.ref a1)])) rfl (by rw [hml]; rfl) (Steps.refl _) (a := a1) (argsL := []) (rest := []) (lenOf own_pd_2 rfl) rfl (by show 2 * 0 + _ ≤ _; exact Nat.le_of_eq rfl) (hb hby d6_1) (fun _ _ => ⟨rfl, e0, (by decide : 0 + 0 ≤ _), (by decide : 0 + 0 ≤ _)⟩)
  dsimp only [Pt.U, Pt.locs, Pt.cells, Pt.slots] at X1 l1 y1 z1 st1 hQ1
  subst l1 y1 z1
  obtain ⟨Nq1, eh1, hv1⟩ := hQ1
  have N1 := Fr.app N0 Nq1
  subst hv1
  obtain ⟨T2, h2, X2, e2, W2, st2⟩ := putF X1 hx hZ hown (host := "") (Or.inl (own_k hw 44 rfl)) Via.refl eh1 hF1 hE (Or.inr ⟨(own_k hw 45 rfl), rfl, hnm⟩) (own_k hw 33 rfl) (ty := (.object "com/example/wudaokou/wudaokou/model/Behaviour")) (by decide) rfl rfl (g := (mkF m 6 #[.val (.ref a1), .val (.ref a2), .val (.ref a3), .val (.ref a4), .val (.ref a5)] [(.ref a2), (.ref a1)])) rfl rfl (hb hby d6_6)
  have N2 := Fr.snoc X2 N1 hG1
  have K3 : Keep h0 h2 [a1] := (Keep.refl h0 [a1]).wr W2 (Or.inl (List.mem_of_getElem? (i := 0) rfl))
  have Fw2 : Fld Z h2 a1 "com/example/wudaokou/wudaokou/model/SensitiveCall" "behaviour" "Lcom/example/wudaokou/wudaokou/model/Behaviour;" (.ref a2) := hF1.same W2
  have f4 : Fld Z h2 a1 "com/example/wudaokou/wudaokou/model/SensitiveCall" "declaringType" "Ljava/lang/String;" .null := (hF2.other W2 (Or.inr (slot_ne (Or.inr (own_k hw 47 rfl)) (Or.inr (own_k hw 45 rfl)) (by decide) (t := (.object "java/lang/String")) (t' := (.object "com/example/wudaokou/wudaokou/model/Behaviour")) (by decide) (by decide))))
  have f5 : Exa Z h2 a1 "com/example/wudaokou/wudaokou/model/SensitiveCall" := (hE.wr W2)
  obtain ⟨T6, h6, X6, e6, W6, st6⟩ := putF X2 hx hZ hown (host := "") (Or.inl (own_k hw 46 rfl)) Via.refl e2 f4 f5 (Or.inr ⟨(own_k hw 47 rfl), rfl, hnm⟩) (own_k hw 33 rfl) (ty := (.object "java/lang/String")) (by decide) rfl rfl (g := (mkF m 11 #[.val (.ref a1), .val (.ref a2), .val (.ref a3), .val (.ref a4), .val (.ref a5)] [(.ref a3), (.ref a1)])) rfl rfl (hb hby d6_11)
  have N6 := Fr.snoc X6 N2 hG1
  have K7 : Keep h0 h6 [a1] := K3.wr W6 (Or.inl (List.mem_of_getElem? (i := 0) rfl))
  have Fw6 : Fld Z h6 a1 "com/example/wudaokou/wudaokou/model/SensitiveCall" "declaringType" "Ljava/lang/String;" (.ref a3) := f4.same W6
  have f8 : Fld Z h6 a1 "com/example/wudaokou/wudaokou/model/SensitiveCall" "methodName" "Ljava/lang/String;" .null := ((hF3.other W2 (Or.inr (slot_ne (Or.inr (own_k hw 49 rfl)) (Or.inr (own_k hw 45 rfl)) (by decide) (t := (.object "java/lang/String")) (t' := (.object "com/example/wudaokou/wudaokou/model/Behaviour")) (by decide) (by decide)))).other W6 (Or.inr (slot_ne (Or.inr (own_k hw 49 rfl)) (Or.inr (own_k hw 47 rfl)) (by decide) (t := (.object "java/lang/String")) (t' := (.object "java/lang/String")) (by decide) (by decide))))
  have f9 : Exa Z h6 a1 "com/example/wudaokou/wudaokou/model/SensitiveCall" := (f5.wr W6)
  obtain ⟨T10, h10, X10, e10, W10, st10⟩ := putF X6 hx hZ hown (host := "") (Or.inl (own_k hw 48 rfl)) Via.refl e6 f8 f9 (Or.inr ⟨(own_k hw 49 rfl), rfl, hnm⟩) (own_k hw 33 rfl) (ty := (.object "java/lang/String")) (by decide) rfl rfl (g := (mkF m 16 #[.val (.ref a1), .val (.ref a2), .val (.ref a3), .val (.ref a4), .val (.ref a5)] [(.ref a4), (.ref a1)])) rfl rfl (hb hby d6_16)
  have N10 := Fr.snoc X10 N6 hG1
  have K11 : Keep h0 h10 [a1] := K7.wr W10 (Or.inl (List.mem_of_getElem? (i := 0) rfl))
  have Fw10 : Fld Z h10 a1 "com/example/wudaokou/wudaokou/model/SensitiveCall" "methodName" "Ljava/lang/String;" (.ref a4) := f8.same W10
  have f12 : Fld Z h10 a1 "com/example/wudaokou/wudaokou/model/SensitiveCall" "guard" "Ljava/lang/String;" .null := (((hF4.other W2 (Or.inr (slot_ne (Or.inr (own_k hw 51 rfl)) (Or.inr (own_k hw 45 rfl)) (by decide) (t := (.object "java/lang/String")) (t' := (.object "com/example/wudaokou/wudaokou/model/Behaviour")) (by decide) (by decide)))).other W6 (Or.inr (slot_ne (Or.inr (own_k hw 51 rfl)) (Or.inr (own_k hw 47 rfl)) (by decide) (t := (.object "java/lang/String")) (t' := (.object "java/lang/String")) (by decide) (by decide)))).other W10 (Or.inr (slot_ne (Or.inr (own_k hw 51 rfl)) (Or.inr (own_k hw 49 rfl)) (by decide) (t := (.object "java/lang/String")) (t' := (.object "java/lang/String")) (by decide) (by decide))))
  have f13 : Exa Z h10 a1 "com/example/wudaokou/wudaokou/model/SensitiveCall" := (f9.wr W10)
  obtain ⟨T14, h14, X14, e14, W14, st14⟩ := putF X10 hx hZ hown (host := "") (Or.inl (own_k hw 50 rfl)) Via.refl e10 f12 f13 (Or.inr ⟨(own_k hw 51 rfl), rfl, hnm⟩) (own_k hw 33 rfl) (ty := (.object "java/lang/String")) (by decide) rfl rfl (g := (mkF m 22 #[.val (.ref a1), .val (.ref a2), .val (.ref a3), .val (.ref a4), .val (.ref a5)] [(.ref a5), (.ref a1)])) rfl rfl (hb hby d6_22)
  have N14 := Fr.snoc X14 N10 hG1
  have K15 : Keep h0 h14 [a1] := K11.wr W14 (Or.inl (List.mem_of_getElem? (i := 0) rfl))
  have Fw14 : Fld Z h14 a1 "com/example/wudaokou/wudaokou/model/SensitiveCall" "guard" "Ljava/lang/String;" (.ref a5) := f12.same W14
  have f16 : Exa Z h14 a1 "com/example/wudaokou/wudaokou/model/SensitiveCall" := (f13.wr W14)
  have f17 : Fld Z h14 a1 "com/example/wudaokou/wudaokou/model/SensitiveCall" "declaringType" "Ljava/lang/String;" (.ref a3) := ((Fw6.other W10 (Or.inr (slot_ne (Or.inr (own_k hw 47 rfl)) (Or.inr (own_k hw 49 rfl)) (by decide) (t := (.object "java/lang/String")) (t' := (.object "java/lang/String")) (by decide) (by decide)))).other W14 (Or.inr (slot_ne (Or.inr (own_k hw 47 rfl)) (Or.inr (own_k hw 51 rfl)) (by decide) (t := (.object "java/lang/String")) (t' := (.object "java/lang/String")) (by decide) (by decide))))
  have f18 : Fld Z h14 a1 "com/example/wudaokou/wudaokou/model/SensitiveCall" "methodName" "Ljava/lang/String;" (.ref a4) := (Fw10.other W14 (Or.inr (slot_ne (Or.inr (own_k hw 49 rfl)) (Or.inr (own_k hw 51 rfl)) (by decide) (t := (.object "java/lang/String")) (t' := (.object "java/lang/String")) (by decide) (by decide))))
  obtain ⟨fs, hr, hrun, hended, hW, hsame⟩ := X14.leave (v := none) (fun _ => rfl)
  refine ⟨_, _, pre0 _ ?_, hrun, hended, _, _, rfl, ?_, ⟨_, rfl⟩, hW, hsame.mono (by decide) (by decide)⟩
  · show Steps p.tables e below (s₁.setTop (mkF m 0 #[.val (.ref a1), .val (.ref a2), .val (.ref a3), .val (.ref a4), .val (.ref a5)] [])) _
    refine XS.aloadN X0.here hx rfl (hb hby d6_0) rfl rfl ?_
    show Steps p.tables e below (s₁.setTop (mkF m 1 #[.val (.ref a1), .val (.ref a2), .val (.ref a3), .val (.ref a4), .val (.ref a5)] [(.ref a1)])) _
    refine st1.trans ?_
    show Steps p.tables e below (T1.setTop (mkF m 4 #[.val (.ref a1), .val (.ref a2), .val (.ref a3), .val (.ref a4), .val (.ref a5)] [])) _
    refine XS.aloadN X1.here hx rfl (hb hby d6_4) rfl rfl ?_
    show Steps p.tables e below (T1.setTop (mkF m 5 #[.val (.ref a1), .val (.ref a2), .val (.ref a3), .val (.ref a4), .val (.ref a5)] [(.ref a1)])) _
    refine XS.aloadN X1.here hx rfl (hb hby d6_5) rfl rfl ?_
    show Steps p.tables e below (T1.setTop (mkF m 6 #[.val (.ref a1), .val (.ref a2), .val (.ref a3), .val (.ref a4), .val (.ref a5)] [(.ref a2), (.ref a1)])) _
    refine st2 _ ?_
    show Steps p.tables e below (T2.setTop (mkF m 9 #[.val (.ref a1), .val (.ref a2), .val (.ref a3), .val (.ref a4), .val (.ref a5)] [])) _
    refine XS.aloadN X2.here hx rfl (hb hby d6_9) rfl rfl ?_
    show Steps p.tables e below (T2.setTop (mkF m 10 #[.val (.ref a1), .val (.ref a2), .val (.ref a3), .val (.ref a4), .val (.ref a5)] [(.ref a1)])) _
    refine XS.aloadN X2.here hx rfl (hb hby d6_10) rfl rfl ?_
    show Steps p.tables e below (T2.setTop (mkF m 11 #[.val (.ref a1), .val (.ref a2), .val (.ref a3), .val (.ref a4), .val (.ref a5)] [(.ref a3), (.ref a1)])) _
    refine st6 _ ?_
    show Steps p.tables e below (T6.setTop (mkF m 14 #[.val (.ref a1), .val (.ref a2), .val (.ref a3), .val (.ref a4), .val (.ref a5)] [])) _
    refine XS.aloadN X6.here hx rfl (hb hby d6_14) rfl rfl ?_
    show Steps p.tables e below (T6.setTop (mkF m 15 #[.val (.ref a1), .val (.ref a2), .val (.ref a3), .val (.ref a4), .val (.ref a5)] [(.ref a1)])) _
    refine XS.aloadN X6.here hx rfl (hb hby d6_15) rfl rfl ?_
    show Steps p.tables e below (T6.setTop (mkF m 16 #[.val (.ref a1), .val (.ref a2), .val (.ref a3), .val (.ref a4), .val (.ref a5)] [(.ref a4), (.ref a1)])) _
    refine st10 _ ?_
    show Steps p.tables e below (T10.setTop (mkF m 19 #[.val (.ref a1), .val (.ref a2), .val (.ref a3), .val (.ref a4), .val (.ref a5)] [])) _
    refine XS.aloadN X10.here hx rfl (hb hby d6_19) rfl rfl ?_
    show Steps p.tables e below (T10.setTop (mkF m 20 #[.val (.ref a1), .val (.ref a2), .val (.ref a3), .val (.ref a4), .val (.ref a5)] [(.ref a1)])) _
    refine XS.aload X10.here hx rfl (hb hby d6_20) rfl rfl ?_
    show Steps p.tables e below (T10.setTop (mkF m 22 #[.val (.ref a1), .val (.ref a2), .val (.ref a3), .val (.ref a4), .val (.ref a5)] [(.ref a5), (.ref a1)])) _
    refine st14 _ ?_
    show Steps p.tables e below (T14.setTop (mkF m 25 #[.val (.ref a1), .val (.ref a2), .val (.ref a3), .val (.ref a4), .val (.ref a5)] [])) _
    exact X14.returnOut hx Bd.returns (hb hby d6_25) hr
  · show Qini0 Z a1 a2 a3 a4 a5 h0 n0 _ T14.heap _
    rw [e14]
    exact ⟨N14, K15, f16, f17, f18, rfl⟩
theorem ef_ini1 (m : MethodId) (a1 : Addr) (a2 : Addr) (a3 : Addr) (a4 : Addr) : entryFrame m #[(.ref a1), (.ref a2), (.ref a3), (.ref a4), .null] 5 = mkF m 0 #[.val (.ref a1), .val (.ref a2), .val (.ref a3), .val (.ref a4), .val .null] [] := by first | (simp [entryFrame, mkF, argsToLocals, Value.category]; done) | rfl
def Qini1 (Z : State) (a1 : Addr) (a2 : Addr) (a3 : Addr) (a4 : Addr) (h0 : Heap) (n0 : Nat) (v : Option Value) (h : Heap) (L : List Loc) : Prop := Fr n0 L ∧ Keep h0 h [a1] ∧ Exa Z h a1 "com/example/wudaokou/wudaokou/model/SensitiveCall" ∧ Fld Z h a1 "com/example/wudaokou/wudaokou/model/SensitiveCall" "declaringType" "Ljava/lang/String;" (.ref a3) ∧ Fld Z h a1 "com/example/wudaokou/wudaokou/model/SensitiveCall" "methodName" "Ljava/lang/String;" (.ref a4) ∧ (v = none)
set_option maxRecDepth 65536 in
set_option maxHeartbeats 40000000 in
theorem rmInit1 (l : Launch) (Z : State) (a0 : Array Value) (hw : ∀ d ∈ tables_1, d.before a0 Z = true) (ws : List Jvm.Cond) (a1 : Addr) (a2 : Addr) (a3 : Addr) (a4 : Addr) (h0 : Heap) (n0 : Nat) (Z0 : n0 ≤ h0.size) (hE : Exa Z h0 a1 "com/example/wudaokou/wudaokou/model/SensitiveCall") (hF1 : Fld Z h0 a1 "com/example/wudaokou/wudaokou/model/SensitiveCall" "behaviour" "Lcom/example/wudaokou/wudaokou/model/Behaviour;" .null) (hF2 : Fld Z h0 a1 "com/example/wudaokou/wudaokou/model/SensitiveCall" "declaringType" "Ljava/lang/String;" .null) (hF3 : Fld Z h0 a1 "com/example/wudaokou/wudaokou/model/SensitiveCall" "methodName" "Ljava/lang/String;" .null) (hF4 : Fld Z h0 a1 "com/example/wudaokou/wudaokou/model/SensitiveCall" "guard" "Ljava/lang/String;" .null) (hG1 : n0 ≤ a1) :
    MetFree l (⟨"com/example/wudaokou/wudaokou/model/SensitiveCall", "<init>", "(Lcom/example/wudaokou/wudaokou/model/Behaviour;Ljava/lang/String;Ljava/lang/String;Ljava/lang/String;)V"⟩ : MethodName) (head1 (Jvm.Cond.code (⟨"com/example/wudaokou/wudaokou/model/SensitiveCall", "<init>", "(Lcom/example/wudaokou/wudaokou/model/Behaviour;Ljava/lang/String;Ljava/lang/String;Ljava/lang/String;)V"⟩ : MethodName) prog_16_method_1_code 5 none :: ws) ({ frames := 2, cells := 0, slots := 0, locals := 24 } : Room)) (fun a U => a = #[(.ref a1), (.ref a2), (.ref a3), (.ref a4), .null] ∧ Z.Warmed39 U.vm ∧ U.heap = h0) (fun _ _ _ _ _ => True) (fun _ U o U' => ∃ v L, o = .returned v ∧ Qini1 Z a1 a2 a3 a4 h0 n0 v U'.heap L ∧ FrameEnd U o U' L ({ frames := 2, cells := 0, slots := 0, locals := 24 } : Room).cells ({ frames := 2, cells := 0, slots := 0, locals := 24 } : Room).slots) := by
  refine MetFree.of_bodySF (plainFor_of_name own_pn_3) hisR ?_
  intro p e s m args below meth c s₁ Bd hml0 hP hK
  obtain ⟨rfl, hZ, hh⟩ := hP
  have hx := Bd.exec
  have hby := Bd.bytes
  have hml : c.maxLocals = 5 := hml0
  have hown : s.vm.findClass "com/example/wudaokou/wudaokou/model/SensitiveCall" = some m.cls := findClass_of_methodNamed Bd.named
  have hnm := (name_of_methodNamed Bd.named Bd.method).1
  have X0 : Stand p l e ({ frames := 2, cells := 0, slots := 0, locals := 24 } : Room) s m #[(.ref a1), (.ref a2), (.ref a3), (.ref a4), .null] below meth c s₁ [] 0 0 := Stand.of_body Bd
  have e0 : s₁.heap = h0 := by rw [← hh, Bd.state]; rfl
  have N0 := Fr.nil n0
  have pre0 : ∀ t, Steps p.tables e below (s₁.setTop (mkF m 0 #[.val (.ref a1), .val (.ref a2), .val (.ref a3), .val (.ref a4), .val .null] [])) t → Steps p.tables e below (s₁.setTop (entryFrame m #[(.ref a1), (.ref a2), (.ref a3), (.ref a4), .null] 5)) t := fun t k => castTop (ef_ini1 m a1 a2 a3 a4) k
  obtain ⟨_, _, ⟨T1, L1, k1, n1⟩, -, X1, ⟨Lc1, hQ1, l1, y1, z1⟩, st1⟩ := X0.specialBack hx (y := (⟨"java/lang/Record", "<init>", "()V"⟩ : MethodName)) rfl hown (mvT hZ (own_k hw 38 rfl)) (mvT hZ (own_k hw 39 rfl)) (mvT hZ (own_k hw 42 rfl)) (by decide) (backOf (W := 0) (rmRec l Z a0 hw [] a1 h0 n0 Z0 ) hZ (own_k hw 42 rfl) (own_k hw 41 rfl) (by decide) (by decide)) (g := (mkF m 1 #[.val (.ref a1), .val (.ref a2), .val (.ref a3), .val (.ref a4), .val .null] [(.ref a1)])) rfl (by rw [hml]; rfl) (Steps.refl _) (a := a1) (argsL := []) (rest := []) (lenOf own_pd_2 rfl) rfl (by show 2 * 0 + _ ≤ _; exact Nat.le_of_eq rfl) (hb hby d6_1) (fun _ _ => ⟨rfl, e0, (by decide : 0 + 0 ≤ _), (by decide : 0 + 0 ≤ _)⟩)
  dsimp only [Pt.U, Pt.locs, Pt.cells, Pt.slots] at X1 l1 y1 z1 st1 hQ1
  subst l1 y1 z1
  obtain ⟨Nq1, eh1, hv1⟩ := hQ1
  have N1 := Fr.app N0 Nq1
  subst hv1
  obtain ⟨T2, h2, X2, e2, W2, st2⟩ := putF X1 hx hZ hown (host := "") (Or.inl (own_k hw 44 rfl)) Via.refl eh1 hF1 hE (Or.inr ⟨(own_k hw 45 rfl), rfl, hnm⟩) (own_k hw 33 rfl) (ty := (.object "com/example/wudaokou/wudaokou/model/Behaviour")) (by decide) rfl rfl (g := (mkF m 6 #[.val (.ref a1), .val (.ref a2), .val (.ref a3), .val (.ref a4), .val .null] [(.ref a2), (.ref a1)])) rfl rfl (hb hby d6_6)
  have N2 := Fr.snoc X2 N1 hG1
  have K3 : Keep h0 h2 [a1] := (Keep.refl h0 [a1]).wr W2 (Or.inl (List.mem_of_getElem? (i := 0) rfl))
  have Fw2 : Fld Z h2 a1 "com/example/wudaokou/wudaokou/model/SensitiveCall" "behaviour" "Lcom/example/wudaokou/wudaokou/model/Behaviour;" (.ref a2) := hF1.same W2
  have f4 : Fld Z h2 a1 "com/example/wudaokou/wudaokou/model/SensitiveCall" "declaringType" "Ljava/lang/String;" .null := (hF2.other W2 (Or.inr (slot_ne (Or.inr (own_k hw 47 rfl)) (Or.inr (own_k hw 45 rfl)) (by decide) (t := (.object "java/lang/String")) (t' := (.object "com/example/wudaokou/wudaokou/model/Behaviour")) (by decide) (by decide))))
  have f5 : Exa Z h2 a1 "com/example/wudaokou/wudaokou/model/SensitiveCall" := (hE.wr W2)
  obtain ⟨T6, h6, X6, e6, W6, st6⟩ := putF X2 hx hZ hown (host := "") (Or.inl (own_k hw 46 rfl)) Via.refl e2 f4 f5 (Or.inr ⟨(own_k hw 47 rfl), rfl, hnm⟩) (own_k hw 33 rfl) (ty := (.object "java/lang/String")) (by decide) rfl rfl (g := (mkF m 11 #[.val (.ref a1), .val (.ref a2), .val (.ref a3), .val (.ref a4), .val .null] [(.ref a3), (.ref a1)])) rfl rfl (hb hby d6_11)
  have N6 := Fr.snoc X6 N2 hG1
  have K7 : Keep h0 h6 [a1] := K3.wr W6 (Or.inl (List.mem_of_getElem? (i := 0) rfl))
  have Fw6 : Fld Z h6 a1 "com/example/wudaokou/wudaokou/model/SensitiveCall" "declaringType" "Ljava/lang/String;" (.ref a3) := f4.same W6
  have f8 : Fld Z h6 a1 "com/example/wudaokou/wudaokou/model/SensitiveCall" "methodName" "Ljava/lang/String;" .null := ((hF3.other W2 (Or.inr (slot_ne (Or.inr (own_k hw 49 rfl)) (Or.inr (own_k hw 45 rfl)) (by decide) (t := (.object "java/lang/String")) (t' := (.object "com/example/wudaokou/wudaokou/model/Behaviour")) (by decide) (by decide)))).other W6 (Or.inr (slot_ne (Or.inr (own_k hw 49 rfl)) (Or.inr (own_k hw 47 rfl)) (by decide) (t := (.object "java/lang/String")) (t' := (.object "java/lang/String")) (by decide) (by decide))))
  have f9 : Exa Z h6 a1 "com/example/wudaokou/wudaokou/model/SensitiveCall" := (f5.wr W6)
  obtain ⟨T10, h10, X10, e10, W10, st10⟩ := putF X6 hx hZ hown (host := "") (Or.inl (own_k hw 48 rfl)) Via.refl e6 f8 f9 (Or.inr ⟨(own_k hw 49 rfl), rfl, hnm⟩) (own_k hw 33 rfl) (ty := (.object "java/lang/String")) (by decide) rfl rfl (g := (mkF m 16 #[.val (.ref a1), .val (.ref a2), .val (.ref a3), .val (.ref a4), .val .null] [(.ref a4), (.ref a1)])) rfl rfl (hb hby d6_16)
  have N10 := Fr.snoc X10 N6 hG1
  have K11 : Keep h0 h10 [a1] := K7.wr W10 (Or.inl (List.mem_of_getElem? (i := 0) rfl))
  have Fw10 : Fld Z h10 a1 "com/example/wudaokou/wudaokou/model/SensitiveCall" "methodName" "Ljava/lang/String;" (.ref a4) := f8.same W10
  have f12 : Fld Z h10 a1 "com/example/wudaokou/wudaokou/model/SensitiveCall" "guard" "Ljava/lang/String;" .null := (((hF4.other W2 (Or.inr (slot_ne (Or.inr (own_k hw 51 rfl)) (Or.inr (own_k hw 45 rfl)) (by decide) (t := (.object "java/lang/String")) (t' := (.object "com/example/wudaokou/wudaokou/model/Behaviour")) (by decide) (by decide)))).other W6 (Or.inr (slot_ne (Or.inr (own_k hw 51 rfl)) (Or.inr (own_k hw 47 rfl)) (by decide) (t := (.object "java/lang/String")) (t' := (.object "java/lang/String")) (by decide) (by decide)))).other W10 (Or.inr (slot_ne (Or.inr (own_k hw 51 rfl)) (Or.inr (own_k hw 49 rfl)) (by decide) (t := (.object "java/lang/String")) (t' := (.object "java/lang/String")) (by decide) (by decide))))
  have f13 : Exa Z h10 a1 "com/example/wudaokou/wudaokou/model/SensitiveCall" := (f9.wr W10)
  obtain ⟨T14, h14, X14, e14, W14, st14⟩ := putF X10 hx hZ hown (host := "") (Or.inl (own_k hw 50 rfl)) Via.refl e10 f12 f13 (Or.inr ⟨(own_k hw 51 rfl), rfl, hnm⟩) (own_k hw 33 rfl) (ty := (.object "java/lang/String")) (by decide) rfl rfl (g := (mkF m 22 #[.val (.ref a1), .val (.ref a2), .val (.ref a3), .val (.ref a4), .val .null] [.null, (.ref a1)])) rfl rfl (hb hby d6_22)
  have N14 := Fr.snoc X14 N10 hG1
  have K15 : Keep h0 h14 [a1] := K11.wr W14 (Or.inl (List.mem_of_getElem? (i := 0) rfl))
  have Fw14 : Fld Z h14 a1 "com/example/wudaokou/wudaokou/model/SensitiveCall" "guard" "Ljava/lang/String;" .null := f12.same W14
  have f16 : Exa Z h14 a1 "com/example/wudaokou/wudaokou/model/SensitiveCall" := (f13.wr W14)
  have f17 : Fld Z h14 a1 "com/example/wudaokou/wudaokou/model/SensitiveCall" "declaringType" "Ljava/lang/String;" (.ref a3) := ((Fw6.other W10 (Or.inr (slot_ne (Or.inr (own_k hw 47 rfl)) (Or.inr (own_k hw 49 rfl)) (by decide) (t := (.object "java/lang/String")) (t' := (.object "java/lang/String")) (by decide) (by decide)))).other W14 (Or.inr (slot_ne (Or.inr (own_k hw 47 rfl)) (Or.inr (own_k hw 51 rfl)) (by decide) (t := (.object "java/lang/String")) (t' := (.object "java/lang/String")) (by decide) (by decide))))
  have f18 : Fld Z h14 a1 "com/example/wudaokou/wudaokou/model/SensitiveCall" "methodName" "Ljava/lang/String;" (.ref a4) := (Fw10.other W14 (Or.inr (slot_ne (Or.inr (own_k hw 49 rfl)) (Or.inr (own_k hw 51 rfl)) (by decide) (t := (.object "java/lang/String")) (t' := (.object "java/lang/String")) (by decide) (by decide))))
  obtain ⟨fs, hr, hrun, hended, hW, hsame⟩ := X14.leave (v := none) (fun _ => rfl)
  refine ⟨_, _, pre0 _ ?_, hrun, hended, _, _, rfl, ?_, ⟨_, rfl⟩, hW, hsame.mono (by decide) (by decide)⟩
  · show Steps p.tables e below (s₁.setTop (mkF m 0 #[.val (.ref a1), .val (.ref a2), .val (.ref a3), .val (.ref a4), .val .null] [])) _
    refine XS.aloadN X0.here hx rfl (hb hby d6_0) rfl rfl ?_
    show Steps p.tables e below (s₁.setTop (mkF m 1 #[.val (.ref a1), .val (.ref a2), .val (.ref a3), .val (.ref a4), .val .null] [(.ref a1)])) _
    refine st1.trans ?_
    show Steps p.tables e below (T1.setTop (mkF m 4 #[.val (.ref a1), .val (.ref a2), .val (.ref a3), .val (.ref a4), .val .null] [])) _
    refine XS.aloadN X1.here hx rfl (hb hby d6_4) rfl rfl ?_
    show Steps p.tables e below (T1.setTop (mkF m 5 #[.val (.ref a1), .val (.ref a2), .val (.ref a3), .val (.ref a4), .val .null] [(.ref a1)])) _
    refine XS.aloadN X1.here hx rfl (hb hby d6_5) rfl rfl ?_
    show Steps p.tables e below (T1.setTop (mkF m 6 #[.val (.ref a1), .val (.ref a2), .val (.ref a3), .val (.ref a4), .val .null] [(.ref a2), (.ref a1)])) _
    refine st2 _ ?_
    show Steps p.tables e below (T2.setTop (mkF m 9 #[.val (.ref a1), .val (.ref a2), .val (.ref a3), .val (.ref a4), .val .null] [])) _
    refine XS.aloadN X2.here hx rfl (hb hby d6_9) rfl rfl ?_
    show Steps p.tables e below (T2.setTop (mkF m 10 #[.val (.ref a1), .val (.ref a2), .val (.ref a3), .val (.ref a4), .val .null] [(.ref a1)])) _
    refine XS.aloadN X2.here hx rfl (hb hby d6_10) rfl rfl ?_
    show Steps p.tables e below (T2.setTop (mkF m 11 #[.val (.ref a1), .val (.ref a2), .val (.ref a3), .val (.ref a4), .val .null] [(.ref a3), (.ref a1)])) _
    refine st6 _ ?_
    show Steps p.tables e below (T6.setTop (mkF m 14 #[.val (.ref a1), .val (.ref a2), .val (.ref a3), .val (.ref a4), .val .null] [])) _
    refine XS.aloadN X6.here hx rfl (hb hby d6_14) rfl rfl ?_
    show Steps p.tables e below (T6.setTop (mkF m 15 #[.val (.ref a1), .val (.ref a2), .val (.ref a3), .val (.ref a4), .val .null] [(.ref a1)])) _
    refine XS.aloadN X6.here hx rfl (hb hby d6_15) rfl rfl ?_
    show Steps p.tables e below (T6.setTop (mkF m 16 #[.val (.ref a1), .val (.ref a2), .val (.ref a3), .val (.ref a4), .val .null] [(.ref a4), (.ref a1)])) _
    refine st10 _ ?_
    show Steps p.tables e below (T10.setTop (mkF m 19 #[.val (.ref a1), .val (.ref a2), .val (.ref a3), .val (.ref a4), .val .null] [])) _
    refine XS.aloadN X10.here hx rfl (hb hby d6_19) rfl rfl ?_
    show Steps p.tables e below (T10.setTop (mkF m 20 #[.val (.ref a1), .val (.ref a2), .val (.ref a3), .val (.ref a4), .val .null] [(.ref a1)])) _
    refine XS.aload X10.here hx rfl (hb hby d6_20) rfl rfl ?_
    show Steps p.tables e below (T10.setTop (mkF m 22 #[.val (.ref a1), .val (.ref a2), .val (.ref a3), .val (.ref a4), .val .null] [.null, (.ref a1)])) _
    refine st14 _ ?_
    show Steps p.tables e below (T14.setTop (mkF m 25 #[.val (.ref a1), .val (.ref a2), .val (.ref a3), .val (.ref a4), .val .null] [])) _
    exact X14.returnOut hx Bd.returns (hb hby d6_25) hr
  · show Qini1 Z a1 a2 a3 a4 h0 n0 _ T14.heap _
    rw [e14]
    exact ⟨N14, K15, f16, f17, f18, rfl⟩
theorem d8_0 : decode prog_16_method_2_code 0 = .ok (.aload_n 0, 1) := by decide +kernel
theorem d8_1 : decode prog_16_method_2_code 1 = .ok (.getfield 13, 3) := by decide +kernel
theorem d8_4 : decode prog_16_method_2_code 4 = .ok (.aload_n 1, 1) := by decide +kernel
theorem d8_5 : decode prog_16_method_2_code 5 = .ok (.invokevirtual 23, 3) := by decide +kernel
theorem own_pd_3 : parseMethodDescriptor "(Ljava/lang/Object;)Z" = some ⟨[(.object "java/lang/Object")], some .boolean⟩ := by decide +kernel
theorem d8_8 : decode prog_16_method_2_code 8 = .ok (.ifCond .eq 18, 3) := by decide +kernel
theorem d8_11 : decode prog_16_method_2_code 11 = .ok (.aload_n 0, 1) := by decide +kernel
theorem d8_12 : decode prog_16_method_2_code 12 = .ok (.getfield 17, 3) := by decide +kernel
theorem d8_15 : decode prog_16_method_2_code 15 = .ok (.aload_n 2, 1) := by decide +kernel
theorem d8_16 : decode prog_16_method_2_code 16 = .ok (.invokevirtual 23, 3) := by decide +kernel
theorem d8_19 : decode prog_16_method_2_code 19 = .ok (.ifCond .eq 7, 3) := by decide +kernel
theorem d8_22 : decode prog_16_method_2_code 22 = .ok (.iconst 1, 1) := by decide +kernel
theorem d8_23 : decode prog_16_method_2_code 23 = .ok (.goto 4, 3) := by decide +kernel
theorem d8_27 : decode prog_16_method_2_code 27 = .ok (.ireturn, 1) := by decide +kernel
theorem d8_26 : decode prog_16_method_2_code 26 = .ok (.iconst 0, 1) := by decide +kernel
theorem ef_nb (m : MethodId) (a1 : Addr) (s3 : Addr) (s4 : Addr) : entryFrame m #[(.ref a1), (.ref s3), (.ref s4)] 3 = mkF m 0 #[.val (.ref a1), .val (.ref s3), .val (.ref s4)] [] := by first | (simp [entryFrame, mkF, argsToLocals, Value.category]; done) | rfl
def Qnb (Z : State) (a1 : Addr) (s3 : Addr) (s4 : Addr) (s1 : Addr) (s2 : Addr) (G1 : Int32) (t1 : Addr) (k1 : ClassId) (z1 : Int32) (v1 : List Value) (c1 : List Int32) (t2 : Addr) (k2 : ClassId) (z2 : Int32) (v2 : List Value) (c2 : List Int32) (t3 : Addr) (k3 : ClassId) (z3 : Int32) (v3 : List Value) (c3 : List Int32) (t4 : Addr) (k4 : ClassId) (z4 : Int32) (v4 : List Value) (c4 : List Int32) (h0 : Heap) (n0 : Nat) (v : Option Value) (h : Heap) (L : List Loc) : Prop := Fr n0 L ∧ h = h0 ∧ ((v = some (.int (1 : Int32)) ∧ c1 = c3 ∧ c2 = c4) ∨ (v = some (.int (0 : Int32)) ∧ ¬ (c1 = c3 ∧ c2 = c4)))
set_option maxRecDepth 65536 in
set_option maxHeartbeats 40000000 in
theorem rmNb (l : Launch) (Z : State) (a0 : Array Value) (hw : ∀ d ∈ tables_1, d.before a0 Z = true) (ws : List Jvm.Cond) (a1 : Addr) (s3 : Addr) (s4 : Addr) (s1 : Addr) (s2 : Addr) (G1 : Int32) (t1 : Addr) (k1 : ClassId) (z1 : Int32) (v1 : List Value) (c1 : List Int32) (t2 : Addr) (k2 : ClassId) (z2 : Int32) (v2 : List Value) (c2 : List Int32) (t3 : Addr) (k3 : ClassId) (z3 : Int32) (v3 : List Value) (c3 : List Int32) (t4 : Addr) (k4 : ClassId) (z4 : Int32) (v4 : List Value) (c4 : List Int32) (h0 : Heap) (n0 : Nat) (Z0 : n0 ≤ h0.size) (hS : Sta Z Z.heap "java/lang/String" "COMPACT_STRINGS" "Z" (.int G1)) (hG : ¬ (G1 = (0 : Int32))) (hO : Old Z n0 h0) (hF1 : Fld Z h0 a1 "com/example/wudaokou/wudaokou/model/SensitiveCall" "declaringType" "Ljava/lang/String;" (.ref s1)) (hF2 : Fld Z h0 a1 "com/example/wudaokou/wudaokou/model/SensitiveCall" "methodName" "Ljava/lang/String;" (.ref s2)) (hs1 : Exa Z h0 s1 "java/lang/String") (hv1 : Fld Z h0 s1 "java/lang/String" "value" "[B" (.ref t1)) (hc1 : Fld Z h0 s1 "java/lang/String" "coder" "B" (.int (0 : Int32))) (ha1 : Arv Z h0 t1 k1 .byte z1 v1 (.int (0 : Int32))) (hq1 : StrChars.Road.CodA c1 0 z1 v1) (hr1 : ∀ c ∈ c1, ¬ c < 0 ∧ ¬ (255 : Int32) < c) (hm1 : c1.length ≤ 4000) (hs2 : Exa Z h0 s2 "java/lang/String") (hv2 : Fld Z h0 s2 "java/lang/String" "value" "[B" (.ref t2)) (hc2 : Fld Z h0 s2 "java/lang/String" "coder" "B" (.int (0 : Int32))) (ha2 : Arv Z h0 t2 k2 .byte z2 v2 (.int (0 : Int32))) (hq2 : StrChars.Road.CodA c2 0 z2 v2) (hr2 : ∀ c ∈ c2, ¬ c < 0 ∧ ¬ (255 : Int32) < c) (hm2 : c2.length ≤ 4000) (hs3 : Exa Z h0 s3 "java/lang/String") (hv3 : Fld Z h0 s3 "java/lang/String" "value" "[B" (.ref t3)) (hc3 : Fld Z h0 s3 "java/lang/String" "coder" "B" (.int (0 : Int32))) (ha3 : Arv Z h0 t3 k3 .byte z3 v3 (.int (0 : Int32))) (hq3 : StrChars.Road.CodA c3 0 z3 v3) (hr3 : ∀ c ∈ c3, ¬ c < 0 ∧ ¬ (255 : Int32) < c) (hm3 : c3.length ≤ 4000) (hs4 : Exa Z h0 s4 "java/lang/String") (hv4 : Fld Z h0 s4 "java/lang/String" "value" "[B" (.ref t4)) (hc4 : Fld Z h0 s4 "java/lang/String" "coder" "B" (.int (0 : Int32))) (ha4 : Arv Z h0 t4 k4 .byte z4 v4 (.int (0 : Int32))) (hq4 : StrChars.Road.CodA c4 0 z4 v4) (hr4 : ∀ c ∈ c4, ¬ c < 0 ∧ ¬ (255 : Int32) < c) (hm4 : c4.length ≤ 4000) :
    MetFree l (⟨"com/example/wudaokou/wudaokou/model/SensitiveCall", "isNamedBy", "(Ljava/lang/String;Ljava/lang/String;)Z"⟩ : MethodName) (head1 (Jvm.Cond.code (⟨"com/example/wudaokou/wudaokou/model/SensitiveCall", "isNamedBy", "(Ljava/lang/String;Ljava/lang/String;)Z"⟩ : MethodName) prog_16_method_2_code 3 (some .boolean) :: ws) ({ frames := 2, cells := 0, slots := 0, locals := 28 } : Room)) (fun a U => a = #[(.ref a1), (.ref s3), (.ref s4)] ∧ Z.Warmed39 U.vm ∧ U.heap = h0) (fun _ _ _ _ _ => True) (fun _ U o U' => ∃ v L, o = .returned v ∧ Qnb Z a1 s3 s4 s1 s2 G1 t1 k1 z1 v1 c1 t2 k2 z2 v2 c2 t3 k3 z3 v3 c3 t4 k4 z4 v4 c4 h0 n0 v U'.heap L ∧ FrameEnd U o U' L ({ frames := 2, cells := 0, slots := 0, locals := 28 } : Room).cells ({ frames := 2, cells := 0, slots := 0, locals := 28 } : Room).slots) := by
  refine MetFree.of_bodySF (plainFor_of_name own_pn_3) hisR ?_
  intro p e s m args below meth c s₁ Bd hml0 hP hK
  obtain ⟨rfl, hZ, hh⟩ := hP
  have hx := Bd.exec
  have hby := Bd.bytes
  have hml : c.maxLocals = 3 := hml0
  have hown : s.vm.findClass "com/example/wudaokou/wudaokou/model/SensitiveCall" = some m.cls := findClass_of_methodNamed Bd.named
  have hnm := (name_of_methodNamed Bd.named Bd.method).1
  have X0 : Stand p l e ({ frames := 2, cells := 0, slots := 0, locals := 28 } : Room) s m #[(.ref a1), (.ref s3), (.ref s4)] below meth c s₁ [] 0 0 := Stand.of_body Bd
  have e0 : s₁.heap = h0 := by rw [← hh, Bd.state]; rfl
  have N0 := Fr.nil n0
  have pre0 : ∀ t, Steps p.tables e below (s₁.setTop (mkF m 0 #[.val (.ref a1), .val (.ref s3), .val (.ref s4)] [])) t → Steps p.tables e below (s₁.setTop (entryFrame m #[(.ref a1), (.ref s3), (.ref s4)] 3)) t := fun t k => castTop (ef_nb m a1 s3 s4) k
  obtain ⟨T1, X1, e1, st1⟩ := getF X0 hx hZ hown (host := "") (Or.inl (own_k hw 46 rfl)) Via.refl e0 hF1 (g := (mkF m 1 #[.val (.ref a1), .val (.ref s3), .val (.ref s4)] [(.ref a1)])) rfl rfl (hb hby d8_1)
  have heq2 : ∀ d ∈ StrChars.Road.wordsEq, d.before a0 Z = true := fun d hd => hw d ((by decide +kernel : ∀ d ∈ StrChars.Road.wordsEq, d ∈ tables_1) d hd)
  obtain ⟨cq2, kq2, q2a, q2b, q2c⟩ := isOf hZ e1 hs1
  obtain ⟨_, _, ⟨T2, L2, k2, n2⟩, -, X2, ⟨Lc2, hQ2, l2, y2, z2⟩, st2⟩ := X1.virtualBack hx (y := (⟨"java/lang/String", "equals", "(Ljava/lang/Object;)Z"⟩ : MethodName)) (z := (⟨"java/lang/String", "equals", "(Ljava/lang/Object;)Z"⟩ : MethodName)) hown (mvT hZ (own_k hw 57 rfl)) (mvT hZ (own_k hw 58 rfl)) (notFace_of_selects (args := #[]) (mvT hZ (own_k hw 60 rfl))) (mvT hZ (own_k hw 60 rfl)) (mvT hZ (own_k hw 59 rfl)) (by decide) (StrChars.Road.eqW (W := 0) hZ heq2 (kI := 4) (own_k hw 11 rfl) hs1 hv1 hc1 ha1 hq1 (up _ hr1) hm1 hs3 hv3 hc3 ha3 hq3 (up _ hr3) hm3 (hS.ext hO.2) hG (by decide) (by decide)) q2a q2c (g := (mkF m 5 #[.val (.ref a1), .val (.ref s3), .val (.ref s4)] [(.ref s3), (.ref s1)])) rfl (by rw [hml]; rfl) (Steps.refl _) (argsL := [(.ref s3)]) (rest := []) (lenOf own_pd_3 rfl) rfl (by show 2 * 0 + _ ≤ _; exact Nat.le_of_eq rfl) (hb hby d8_5) (fun _ _ => ⟨rfl, e1, (by decide : 0 + 0 ≤ _), (by decide : 0 + 0 ≤ _)⟩)
  dsimp only [Pt.U, Pt.locs, Pt.cells, Pt.slots] at X2 l2 y2 z2 st2 hQ2
  subst l2 y2 z2
  obtain ⟨hv2, rfl, eh2⟩ := hQ2
  have Nq2 : Fr n0 ([] : List Loc) := Fr.nil n0
  have N2 := Fr.app N0 Nq2
  have pre3 : ∀ t, Steps p.tables e below (T1.setTop (mkF m 5 #[.val (.ref a1), .val (.ref s3), .val (.ref s4)] [(.ref s3), (.ref s1)])) t → Steps p.tables e below (s₁.setTop (entryFrame m #[(.ref a1), (.ref s3), (.ref s4)] 3)) t := fun t kt => pre0 t (by
    show Steps p.tables e below (s₁.setTop (mkF m 0 #[.val (.ref a1), .val (.ref s3), .val (.ref s4)] [])) _
    refine XS.aloadN X0.here hx rfl (hb hby d8_0) rfl rfl ?_
    show Steps p.tables e below (s₁.setTop (mkF m 1 #[.val (.ref a1), .val (.ref s3), .val (.ref s4)] [(.ref a1)])) _
    refine st1 _ ?_
    show Steps p.tables e below (T1.setTop (mkF m 4 #[.val (.ref a1), .val (.ref s3), .val (.ref s4)] [(.ref s1)])) _
    refine XS.aloadN X1.here hx rfl (hb hby d8_4) rfl rfl ?_
    exact kt)
  rcases hv2 with ⟨hv2, hd2_0⟩ | ⟨hv2, hd2_0⟩
  · subst hv2
    obtain ⟨T4, X4, e4, st4⟩ := getF X2 hx hZ hown (host := "") (Or.inl (own_k hw 48 rfl)) Via.refl eh2 hF2 (g := (mkF m 12 #[.val (.ref a1), .val (.ref s3), .val (.ref s4)] [(.ref a1)])) rfl rfl (hb hby d8_12)
    have heq5 : ∀ d ∈ StrChars.Road.wordsEq, d.before a0 Z = true := fun d hd => hw d ((by decide +kernel : ∀ d ∈ StrChars.Road.wordsEq, d ∈ tables_1) d hd)
    obtain ⟨cq5, kq5, q5a, q5b, q5c⟩ := isOf hZ e4 hs2
    obtain ⟨_, _, ⟨T5, L5, k5, n5⟩, -, X5, ⟨Lc5, hQ5, l5, y5, z5⟩, st5⟩ := X4.virtualBack hx (y := (⟨"java/lang/String", "equals", "(Ljava/lang/Object;)Z"⟩ : MethodName)) (z := (⟨"java/lang/String", "equals", "(Ljava/lang/Object;)Z"⟩ : MethodName)) hown (mvT hZ (own_k hw 57 rfl)) (mvT hZ (own_k hw 58 rfl)) (notFace_of_selects (args := #[]) (mvT hZ (own_k hw 60 rfl))) (mvT hZ (own_k hw 60 rfl)) (mvT hZ (own_k hw 59 rfl)) (by decide) (StrChars.Road.eqW (W := 0) hZ heq5 (kI := 4) (own_k hw 11 rfl) hs2 hv2 hc2 ha2 hq2 (up _ hr2) hm2 hs4 hv4 hc4 ha4 hq4 (up _ hr4) hm4 (hS.ext hO.2) hG (by decide) (by decide)) q5a q5c (g := (mkF m 16 #[.val (.ref a1), .val (.ref s3), .val (.ref s4)] [(.ref s4), (.ref s2)])) rfl (by rw [hml]; rfl) (Steps.refl _) (argsL := [(.ref s4)]) (rest := []) (lenOf own_pd_3 rfl) rfl (by show 2 * 0 + _ ≤ _; exact Nat.le_of_eq rfl) (hb hby d8_16) (fun _ _ => ⟨rfl, e4, (by decide : 0 + 0 ≤ _), (by decide : 0 + 0 ≤ _)⟩)
    dsimp only [Pt.U, Pt.locs, Pt.cells, Pt.slots] at X5 l5 y5 z5 st5 hQ5
    subst l5 y5 z5
    obtain ⟨hv5, rfl, eh5⟩ := hQ5
    have Nq5 : Fr n0 ([] : List Loc) := Fr.nil n0
    have N5 := Fr.app N2 Nq5
    have pre6 : ∀ t, Steps p.tables e below (T4.setTop (mkF m 16 #[.val (.ref a1), .val (.ref s3), .val (.ref s4)] [(.ref s4), (.ref s2)])) t → Steps p.tables e below (s₁.setTop (entryFrame m #[(.ref a1), (.ref s3), (.ref s4)] 3)) t := fun t kt => pre3 t (by
      show Steps p.tables e below (T1.setTop (mkF m 5 #[.val (.ref a1), .val (.ref s3), .val (.ref s4)] [(.ref s3), (.ref s1)])) _
      refine st2.trans ?_
      show Steps p.tables e below (T2.setTop (mkF m 8 #[.val (.ref a1), .val (.ref s3), .val (.ref s4)] [(.int (1 : Int32))])) _
      refine XS.ifNo X2.here hx rfl (hb hby d8_8) rfl (by decide) ?_
      show Steps p.tables e below (T2.setTop (mkF m 11 #[.val (.ref a1), .val (.ref s3), .val (.ref s4)] [])) _
      refine XS.aloadN X2.here hx rfl (hb hby d8_11) rfl rfl ?_
      show Steps p.tables e below (T2.setTop (mkF m 12 #[.val (.ref a1), .val (.ref s3), .val (.ref s4)] [(.ref a1)])) _
      refine st4 _ ?_
      show Steps p.tables e below (T4.setTop (mkF m 15 #[.val (.ref a1), .val (.ref s3), .val (.ref s4)] [(.ref s2)])) _
      refine XS.aloadN X4.here hx rfl (hb hby d8_15) rfl rfl ?_
      exact kt)
    rcases hv5 with ⟨hv5, hd5_0⟩ | ⟨hv5, hd5_0⟩
    · subst hv5
      obtain ⟨fs, hr, hrun, hended, hW, hsame⟩ := X5.leave (v := (some (.int (1 : Int32)))) (fun h => by rw [Bd.returns] at h; cases h)
      refine ⟨_, _, pre6 _ ?_, hrun, hended, _, _, rfl, ?_, ⟨_, rfl⟩, hW, hsame.mono (by decide) (by decide)⟩
      · show Steps p.tables e below (T4.setTop (mkF m 16 #[.val (.ref a1), .val (.ref s3), .val (.ref s4)] [(.ref s4), (.ref s2)])) _
        refine st5.trans ?_
        show Steps p.tables e below (T5.setTop (mkF m 19 #[.val (.ref a1), .val (.ref s3), .val (.ref s4)] [(.int (1 : Int32))])) _
        refine XS.ifNo X5.here hx rfl (hb hby d8_19) rfl (by decide) ?_
        show Steps p.tables e below (T5.setTop (mkF m 22 #[.val (.ref a1), .val (.ref s3), .val (.ref s4)] [])) _
        refine XS.iconst X5.here hx rfl (hb hby d8_22) ?_
        show Steps p.tables e below (T5.setTop (mkF m 23 #[.val (.ref a1), .val (.ref s3), .val (.ref s4)] [(.int (1 : Int32))])) _
        refine XS.goto X5.here hx rfl (pc0 := 23) (pc' := 27) rfl (hb hby d8_23) (by decide) (by decide) ?_
        show Steps p.tables e below (T5.setTop (mkF m 27 #[.val (.ref a1), .val (.ref s3), .val (.ref s4)] [(.int (1 : Int32))])) _
        exact retN X5 hx (t := .boolean) Bd.returns (by simp) (hb hby d8_27) hr
      · show Qnb Z a1 s3 s4 s1 s2 G1 t1 k1 z1 v1 c1 t2 k2 z2 v2 c2 t3 k3 z3 v3 c3 t4 k4 z4 v4 c4 h0 n0 _ T5.heap _
        rw [eh5]
        exact ⟨N5, rfl, Or.inl ⟨rfl, hd2_0, hd5_0⟩⟩
    · subst hv5
      obtain ⟨fs, hr, hrun, hended, hW, hsame⟩ := X5.leave (v := (some (.int (0 : Int32)))) (fun h => by rw [Bd.returns] at h; cases h)
      refine ⟨_, _, pre6 _ ?_, hrun, hended, _, _, rfl, ?_, ⟨_, rfl⟩, hW, hsame.mono (by decide) (by decide)⟩
      · show Steps p.tables e below (T4.setTop (mkF m 16 #[.val (.ref a1), .val (.ref s3), .val (.ref s4)] [(.ref s4), (.ref s2)])) _
        refine st5.trans ?_
        show Steps p.tables e below (T5.setTop (mkF m 19 #[.val (.ref a1), .val (.ref s3), .val (.ref s4)] [(.int (0 : Int32))])) _
        refine XS.ifYes X5.here hx rfl (pc0 := 19) (pc' := 26) rfl (hb hby d8_19) rfl (by decide) (by decide) (by decide) ?_
        show Steps p.tables e below (T5.setTop (mkF m 26 #[.val (.ref a1), .val (.ref s3), .val (.ref s4)] [])) _
        refine XS.iconst X5.here hx rfl (hb hby d8_26) ?_
        show Steps p.tables e below (T5.setTop (mkF m 27 #[.val (.ref a1), .val (.ref s3), .val (.ref s4)] [(.int (0 : Int32))])) _
        exact retN X5 hx (t := .boolean) Bd.returns (by simp) (hb hby d8_27) hr
      · show Qnb Z a1 s3 s4 s1 s2 G1 t1 k1 z1 v1 c1 t2 k2 z2 v2 c2 t3 k3 z3 v3 c3 t4 k4 z4 v4 c4 h0 n0 _ T5.heap _
        rw [eh5]
        exact ⟨N5, rfl, Or.inr ⟨rfl, fun q => hd5_0 q.2⟩⟩
  · subst hv2
    obtain ⟨fs, hr, hrun, hended, hW, hsame⟩ := X2.leave (v := (some (.int (0 : Int32)))) (fun h => by rw [Bd.returns] at h; cases h)
    refine ⟨_, _, pre3 _ ?_, hrun, hended, _, _, rfl, ?_, ⟨_, rfl⟩, hW, hsame.mono (by decide) (by decide)⟩
    · show Steps p.tables e below (T1.setTop (mkF m 5 #[.val (.ref a1), .val (.ref s3), .val (.ref s4)] [(.ref s3), (.ref s1)])) _
      refine st2.trans ?_
      show Steps p.tables e below (T2.setTop (mkF m 8 #[.val (.ref a1), .val (.ref s3), .val (.ref s4)] [(.int (0 : Int32))])) _
      refine XS.ifYes X2.here hx rfl (pc0 := 8) (pc' := 26) rfl (hb hby d8_8) rfl (by decide) (by decide) (by decide) ?_
      show Steps p.tables e below (T2.setTop (mkF m 26 #[.val (.ref a1), .val (.ref s3), .val (.ref s4)] [])) _
      refine XS.iconst X2.here hx rfl (hb hby d8_26) ?_
      show Steps p.tables e below (T2.setTop (mkF m 27 #[.val (.ref a1), .val (.ref s3), .val (.ref s4)] [(.int (0 : Int32))])) _
      exact retN X2 hx (t := .boolean) Bd.returns (by simp) (hb hby d8_27) hr
    · show Qnb Z a1 s3 s4 s1 s2 G1 t1 k1 z1 v1 c1 t2 k2 z2 v2 c2 t3 k3 z3 v3 c3 t4 k4 z4 v4 c4 h0 n0 _ T2.heap _
      rw [eh2]
      exact ⟨N2, rfl, Or.inr ⟨rfl, fun q => hd2_0 q.1⟩⟩
theorem d11_0 : decode method_5_code 0 = .ok (.iload_n 0, 1) := by decide +kernel
theorem d11_1 : decode method_5_code 1 = .ok (.bipush 24, 2) := by decide +kernel
theorem d11_3 : decode method_5_code 3 = .ok (.iushr, 1) := by decide +kernel
theorem d11_4 : decode method_5_code 4 = .ok (.iconst 3, 1) := by decide +kernel
theorem d11_5 : decode method_5_code 5 = .ok (.iand, 1) := by decide +kernel
theorem d11_6 : decode method_5_code 6 = .ok (.istore_n 2, 1) := by decide +kernel
theorem d11_7 : decode method_5_code 7 = .ok (.iload_n 2, 1) := by decide +kernel
theorem d11_8 : decode method_5_code 8 = .ok (.iload_n 1, 1) := by decide +kernel
theorem d11_9 : decode method_5_code 9 = .ok (.bipush 24, 2) := by decide +kernel
theorem d11_11 : decode method_5_code 11 = .ok (.iushr, 1) := by decide +kernel
theorem d11_12 : decode method_5_code 12 = .ok (.iconst 3, 1) := by decide +kernel
theorem d11_13 : decode method_5_code 13 = .ok (.iand, 1) := by decide +kernel
theorem d11_14 : decode method_5_code 14 = .ok (.if_icmp .eq 5, 3) := by decide +kernel
theorem d11_19 : decode method_5_code 19 = .ok (.iload_n 2, 1) := by decide +kernel
theorem d11_20 : decode method_5_code 20 = .ok (.iconst 1, 1) := by decide +kernel
theorem d11_21 : decode method_5_code 21 = .ok (.if_icmp .lt 18, 3) := by decide +kernel
theorem d11_39 : decode method_5_code 39 = .ok (.iload_n 2, 1) := by decide +kernel
theorem d11_40 : decode method_5_code 40 = .ok (.iconst 2, 1) := by decide +kernel
theorem d11_41 : decode method_5_code 41 = .ok (.if_icmp .lt 24, 3) := by decide +kernel
theorem d11_65 : decode method_5_code 65 = .ok (.iload_n 2, 1) := by decide +kernel
theorem d11_66 : decode method_5_code 66 = .ok (.iconst 3, 1) := by decide +kernel
theorem d11_67 : decode method_5_code 67 = .ok (.if_icmp .lt 24, 3) := by decide +kernel
theorem d11_91 : decode method_5_code 91 = .ok (.iconst 1, 1) := by decide +kernel
theorem d11_92 : decode method_5_code 92 = .ok (.ireturn, 1) := by decide +kernel
theorem d11_70 : decode method_5_code 70 = .ok (.iload_n 0, 1) := by decide +kernel
theorem d11_71 : decode method_5_code 71 = .ok (.bipush 16, 2) := by decide +kernel
theorem d11_73 : decode method_5_code 73 = .ok (.iushr, 1) := by decide +kernel
theorem d11_74 : decode method_5_code 74 = .ok (.sipush 255, 3) := by decide +kernel
theorem d11_77 : decode method_5_code 77 = .ok (.iand, 1) := by decide +kernel
theorem d11_78 : decode method_5_code 78 = .ok (.iload_n 1, 1) := by decide +kernel
theorem d11_79 : decode method_5_code 79 = .ok (.bipush 16, 2) := by decide +kernel
theorem d11_81 : decode method_5_code 81 = .ok (.iushr, 1) := by decide +kernel
theorem d11_82 : decode method_5_code 82 = .ok (.sipush 255, 3) := by decide +kernel
theorem d11_85 : decode method_5_code 85 = .ok (.iand, 1) := by decide +kernel
theorem d11_86 : decode method_5_code 86 = .ok (.if_icmp .eq 5, 3) := by decide +kernel
theorem d11_89 : decode method_5_code 89 = .ok (.iconst 0, 1) := by decide +kernel
theorem d11_90 : decode method_5_code 90 = .ok (.ireturn, 1) := by decide +kernel
theorem d11_44 : decode method_5_code 44 = .ok (.iload_n 0, 1) := by decide +kernel
theorem d11_45 : decode method_5_code 45 = .ok (.bipush 8, 2) := by decide +kernel
theorem d11_47 : decode method_5_code 47 = .ok (.iushr, 1) := by decide +kernel
theorem d11_48 : decode method_5_code 48 = .ok (.sipush 255, 3) := by decide +kernel
theorem d11_51 : decode method_5_code 51 = .ok (.iand, 1) := by decide +kernel
theorem d11_52 : decode method_5_code 52 = .ok (.iload_n 1, 1) := by decide +kernel
theorem d11_53 : decode method_5_code 53 = .ok (.bipush 8, 2) := by decide +kernel
theorem d11_55 : decode method_5_code 55 = .ok (.iushr, 1) := by decide +kernel
theorem d11_56 : decode method_5_code 56 = .ok (.sipush 255, 3) := by decide +kernel
theorem d11_59 : decode method_5_code 59 = .ok (.iand, 1) := by decide +kernel
theorem d11_60 : decode method_5_code 60 = .ok (.if_icmp .eq 5, 3) := by decide +kernel
theorem d11_63 : decode method_5_code 63 = .ok (.iconst 0, 1) := by decide +kernel
theorem d11_64 : decode method_5_code 64 = .ok (.ireturn, 1) := by decide +kernel
theorem d11_24 : decode method_5_code 24 = .ok (.iload_n 0, 1) := by decide +kernel
theorem d11_25 : decode method_5_code 25 = .ok (.sipush 255, 3) := by decide +kernel
theorem d11_28 : decode method_5_code 28 = .ok (.iand, 1) := by decide +kernel
theorem d11_29 : decode method_5_code 29 = .ok (.iload_n 1, 1) := by decide +kernel
theorem d11_30 : decode method_5_code 30 = .ok (.sipush 255, 3) := by decide +kernel
theorem d11_33 : decode method_5_code 33 = .ok (.iand, 1) := by decide +kernel
theorem d11_34 : decode method_5_code 34 = .ok (.if_icmp .eq 5, 3) := by decide +kernel
theorem d11_37 : decode method_5_code 37 = .ok (.iconst 0, 1) := by decide +kernel
theorem d11_38 : decode method_5_code 38 = .ok (.ireturn, 1) := by decide +kernel
theorem d11_17 : decode method_5_code 17 = .ok (.iconst 0, 1) := by decide +kernel
theorem d11_18 : decode method_5_code 18 = .ok (.ireturn, 1) := by decide +kernel
theorem ef_same (m : MethodId) (q1 : Int32) (q2 : Int32) : entryFrame m #[(.int q1), (.int q2)] 3 = mkF m 0 #[.val (.int q1), .val (.int q2), .unset] [] := by first | (simp [entryFrame, mkF, argsToLocals, Value.category]; done) | rfl
def Qsame (Z : State) (q1 : Int32) (q2 : Int32) (h0 : Heap) (n0 : Nat) (v : Option Value) (h : Heap) (L : List Loc) : Prop := Fr n0 L ∧ h = h0 ∧ ((v = some (.int (1 : Int32)) ∧ (own_st q1) = (own_st q2)) ∨ (v = some (.int (0 : Int32)) ∧ ¬ ((own_st q1) = (own_st q2))))
set_option maxRecDepth 65536 in
set_option maxHeartbeats 40000000 in
theorem rmSame (l : Launch) (Z : State) (a0 : Array Value) (hw : ∀ d ∈ tables_1, d.before a0 Z = true) (ws : List Jvm.Cond) (q1 : Int32) (q2 : Int32) (h0 : Heap) (n0 : Nat) (Z0 : n0 ≤ h0.size)  :
    MetFree l (⟨"com/example/wudaokou/wudaokou/model/SensitiveCallIsNamedByPinLaw", "same", "(II)Z"⟩ : MethodName) (head1 (Jvm.Cond.code (⟨"com/example/wudaokou/wudaokou/model/SensitiveCallIsNamedByPinLaw", "same", "(II)Z"⟩ : MethodName) method_5_code 3 (some .boolean) :: ws) ({ frames := 0, cells := 0, slots := 0, locals := 0 } : Room)) (fun a U => a = #[(.int q1), (.int q2)] ∧ Z.Warmed39 U.vm ∧ U.heap = h0) (fun _ _ _ _ _ => True) (fun _ U o U' => ∃ v L, o = .returned v ∧ Qsame Z q1 q2 h0 n0 v U'.heap L ∧ FrameEnd U o U' L ({ frames := 0, cells := 0, slots := 0, locals := 0 } : Room).cells ({ frames := 0, cells := 0, slots := 0, locals := 0 } : Room).slots) := by
  refine MetFree.of_bodySF (plainFor_of_name own_pn_1) hisR ?_
  intro p e s m args below meth c s₁ Bd hml0 hP hK
  obtain ⟨rfl, hZ, hh⟩ := hP
  have hx := Bd.exec
  have hby := Bd.bytes
  have hml : c.maxLocals = 3 := hml0
  have hown : s.vm.findClass "com/example/wudaokou/wudaokou/model/SensitiveCallIsNamedByPinLaw" = some m.cls := findClass_of_methodNamed Bd.named
  have hnm := (name_of_methodNamed Bd.named Bd.method).1
  have X0 : Stand p l e ({ frames := 0, cells := 0, slots := 0, locals := 0 } : Room) s m #[(.int q1), (.int q2)] below meth c s₁ [] 0 0 := Stand.of_body Bd
  have e0 : s₁.heap = h0 := by rw [← hh, Bd.state]; rfl
  have N0 := Fr.nil n0
  have pre0 : ∀ t, Steps p.tables e below (s₁.setTop (mkF m 0 #[.val (.int q1), .val (.int q2), .unset] [])) t → Steps p.tables e below (s₁.setTop (entryFrame m #[(.int q1), (.int q2)] 3)) t := fun t k => castTop (ef_same m q1 q2) k
  have pre1 : ∀ t, Steps p.tables e below (s₁.setTop (mkF m 14 #[.val (.int q1), .val (.int q2), .val (.int (((q1.toUInt32 >>> ((24 : Int32) &&& 31).toUInt32).toInt32) &&& (3 : Int32)))] [(.int (((q2.toUInt32 >>> ((24 : Int32) &&& 31).toUInt32).toInt32) &&& (3 : Int32))), (.int (((q1.toUInt32 >>> ((24 : Int32) &&& 31).toUInt32).toInt32) &&& (3 : Int32)))])) t → Steps p.tables e below (s₁.setTop (entryFrame m #[(.int q1), (.int q2)] 3)) t := fun t kt => pre0 t (by
    show Steps p.tables e below (s₁.setTop (mkF m 0 #[.val (.int q1), .val (.int q2), .unset] [])) _
    refine XS.iloadN X0.here hx rfl (hb hby d11_0) rfl ?_
    show Steps p.tables e below (s₁.setTop (mkF m 1 #[.val (.int q1), .val (.int q2), .unset] [(.int q1)])) _
    refine XS.bipush X0.here hx rfl (hb hby d11_1) ?_
    show Steps p.tables e below (s₁.setTop (mkF m 3 #[.val (.int q1), .val (.int q2), .unset] [(.int (24 : Int32)), (.int q1)])) _
    refine XS.iushr X0.here hx rfl (hb hby d11_3) rfl ?_
    show Steps p.tables e below (s₁.setTop (mkF m 4 #[.val (.int q1), .val (.int q2), .unset] [(.int ((q1.toUInt32 >>> ((24 : Int32) &&& 31).toUInt32).toInt32))])) _
    refine XS.iconst X0.here hx rfl (hb hby d11_4) ?_
    show Steps p.tables e below (s₁.setTop (mkF m 5 #[.val (.int q1), .val (.int q2), .unset] [(.int (3 : Int32)), (.int ((q1.toUInt32 >>> ((24 : Int32) &&& 31).toUInt32).toInt32))])) _
    refine XS.iand X0.here hx rfl (hb hby d11_5) rfl ?_
    show Steps p.tables e below (s₁.setTop (mkF m 6 #[.val (.int q1), .val (.int q2), .unset] [(.int (((q1.toUInt32 >>> ((24 : Int32) &&& 31).toUInt32).toInt32) &&& (3 : Int32)))])) _
    refine XS.istoreN X0.here hx rfl (hb hby d11_6) rfl (l' := #[.val (.int q1), .val (.int q2), .val (.int (((q1.toUInt32 >>> ((24 : Int32) &&& 31).toUInt32).toInt32) &&& (3 : Int32)))]) rfl ?_
    show Steps p.tables e below (s₁.setTop (mkF m 7 #[.val (.int q1), .val (.int q2), .val (.int (((q1.toUInt32 >>> ((24 : Int32) &&& 31).toUInt32).toInt32) &&& (3 : Int32)))] [])) _
    refine XS.iloadN X0.here hx rfl (hb hby d11_7) rfl ?_
    show Steps p.tables e below (s₁.setTop (mkF m 8 #[.val (.int q1), .val (.int q2), .val (.int (((q1.toUInt32 >>> ((24 : Int32) &&& 31).toUInt32).toInt32) &&& (3 : Int32)))] [(.int (((q1.toUInt32 >>> ((24 : Int32) &&& 31).toUInt32).toInt32) &&& (3 : Int32)))])) _
    refine XS.iloadN X0.here hx rfl (hb hby d11_8) rfl ?_
    show Steps p.tables e below (s₁.setTop (mkF m 9 #[.val (.int q1), .val (.int q2), .val (.int (((q1.toUInt32 >>> ((24 : Int32) &&& 31).toUInt32).toInt32) &&& (3 : Int32)))] [(.int q2), (.int (((q1.toUInt32 >>> ((24 : Int32) &&& 31).toUInt32).toInt32) &&& (3 : Int32)))])) _
    refine XS.bipush X0.here hx rfl (hb hby d11_9) ?_
    show Steps p.tables e below (s₁.setTop (mkF m 11 #[.val (.int q1), .val (.int q2), .val (.int (((q1.toUInt32 >>> ((24 : Int32) &&& 31).toUInt32).toInt32) &&& (3 : Int32)))] [(.int (24 : Int32)), (.int q2), (.int (((q1.toUInt32 >>> ((24 : Int32) &&& 31).toUInt32).toInt32) &&& (3 : Int32)))])) _
    refine XS.iushr X0.here hx rfl (hb hby d11_11) rfl ?_
    show Steps p.tables e below (s₁.setTop (mkF m 12 #[.val (.int q1), .val (.int q2), .val (.int (((q1.toUInt32 >>> ((24 : Int32) &&& 31).toUInt32).toInt32) &&& (3 : Int32)))] [(.int ((q2.toUInt32 >>> ((24 : Int32) &&& 31).toUInt32).toInt32)), (.int (((q1.toUInt32 >>> ((24 : Int32) &&& 31).toUInt32).toInt32) &&& (3 : Int32)))])) _
    refine XS.iconst X0.here hx rfl (hb hby d11_12) ?_
    show Steps p.tables e below (s₁.setTop (mkF m 13 #[.val (.int q1), .val (.int q2), .val (.int (((q1.toUInt32 >>> ((24 : Int32) &&& 31).toUInt32).toInt32) &&& (3 : Int32)))] [(.int (3 : Int32)), (.int ((q2.toUInt32 >>> ((24 : Int32) &&& 31).toUInt32).toInt32)), (.int (((q1.toUInt32 >>> ((24 : Int32) &&& 31).toUInt32).toInt32) &&& (3 : Int32)))])) _
    refine XS.iand X0.here hx rfl (hb hby d11_13) rfl ?_
    exact kt)
  by_cases hcx2 : (((q1.toUInt32 >>> ((24 : Int32) &&& 31).toUInt32).toInt32) &&& (3 : Int32)) = (((q2.toUInt32 >>> ((24 : Int32) &&& 31).toUInt32).toInt32) &&& (3 : Int32))
  · skip
    have pre3 : ∀ t, Steps p.tables e below (s₁.setTop (mkF m 21 #[.val (.int q1), .val (.int q2), .val (.int (((q1.toUInt32 >>> ((24 : Int32) &&& 31).toUInt32).toInt32) &&& (3 : Int32)))] [(.int (1 : Int32)), (.int (((q1.toUInt32 >>> ((24 : Int32) &&& 31).toUInt32).toInt32) &&& (3 : Int32)))])) t → Steps p.tables e below (s₁.setTop (entryFrame m #[(.int q1), (.int q2)] 3)) t := fun t kt => pre1 t (by
      show Steps p.tables e below (s₁.setTop (mkF m 14 #[.val (.int q1), .val (.int q2), .val (.int (((q1.toUInt32 >>> ((24 : Int32) &&& 31).toUInt32).toInt32) &&& (3 : Int32)))] [(.int (((q2.toUInt32 >>> ((24 : Int32) &&& 31).toUInt32).toInt32) &&& (3 : Int32))), (.int (((q1.toUInt32 >>> ((24 : Int32) &&& 31).toUInt32).toInt32) &&& (3 : Int32)))])) _
      refine XS.icmpYes X0.here hx rfl (pc0 := 14) (pc' := 19) rfl (hb hby d11_14) rfl (teq hcx2).1 (by decide) (by decide) ?_
      show Steps p.tables e below (s₁.setTop (mkF m 19 #[.val (.int q1), .val (.int q2), .val (.int (((q1.toUInt32 >>> ((24 : Int32) &&& 31).toUInt32).toInt32) &&& (3 : Int32)))] [])) _
      refine XS.iloadN X0.here hx rfl (hb hby d11_19) rfl ?_
      show Steps p.tables e below (s₁.setTop (mkF m 20 #[.val (.int q1), .val (.int q2), .val (.int (((q1.toUInt32 >>> ((24 : Int32) &&& 31).toUInt32).toInt32) &&& (3 : Int32)))] [(.int (((q1.toUInt32 >>> ((24 : Int32) &&& 31).toUInt32).toInt32) &&& (3 : Int32)))])) _
      refine XS.iconst X0.here hx rfl (hb hby d11_20) ?_
      exact kt)
    by_cases hcx4 : (((q1.toUInt32 >>> ((24 : Int32) &&& 31).toUInt32).toInt32) &&& (3 : Int32)) < (1 : Int32)
    · skip
      have pre5 : ∀ t, Steps p.tables e below (s₁.setTop (mkF m 41 #[.val (.int q1), .val (.int q2), .val (.int (((q1.toUInt32 >>> ((24 : Int32) &&& 31).toUInt32).toInt32) &&& (3 : Int32)))] [(.int (2 : Int32)), (.int (((q1.toUInt32 >>> ((24 : Int32) &&& 31).toUInt32).toInt32) &&& (3 : Int32)))])) t → Steps p.tables e below (s₁.setTop (entryFrame m #[(.int q1), (.int q2)] 3)) t := fun t kt => pre3 t (by
        show Steps p.tables e below (s₁.setTop (mkF m 21 #[.val (.int q1), .val (.int q2), .val (.int (((q1.toUInt32 >>> ((24 : Int32) &&& 31).toUInt32).toInt32) &&& (3 : Int32)))] [(.int (1 : Int32)), (.int (((q1.toUInt32 >>> ((24 : Int32) &&& 31).toUInt32).toInt32) &&& (3 : Int32)))])) _
        refine XS.icmpYes X0.here hx rfl (pc0 := 21) (pc' := 39) rfl (hb hby d11_21) rfl (tlt hcx4).1 (by decide) (by decide) ?_
        show Steps p.tables e below (s₁.setTop (mkF m 39 #[.val (.int q1), .val (.int q2), .val (.int (((q1.toUInt32 >>> ((24 : Int32) &&& 31).toUInt32).toInt32) &&& (3 : Int32)))] [])) _
        refine XS.iloadN X0.here hx rfl (hb hby d11_39) rfl ?_
        show Steps p.tables e below (s₁.setTop (mkF m 40 #[.val (.int q1), .val (.int q2), .val (.int (((q1.toUInt32 >>> ((24 : Int32) &&& 31).toUInt32).toInt32) &&& (3 : Int32)))] [(.int (((q1.toUInt32 >>> ((24 : Int32) &&& 31).toUInt32).toInt32) &&& (3 : Int32)))])) _
        refine XS.iconst X0.here hx rfl (hb hby d11_40) ?_
        exact kt)
      by_cases hcx6 : (((q1.toUInt32 >>> ((24 : Int32) &&& 31).toUInt32).toInt32) &&& (3 : Int32)) < (2 : Int32)
      · skip
        have pre7 : ∀ t, Steps p.tables e below (s₁.setTop (mkF m 67 #[.val (.int q1), .val (.int q2), .val (.int (((q1.toUInt32 >>> ((24 : Int32) &&& 31).toUInt32).toInt32) &&& (3 : Int32)))] [(.int (3 : Int32)), (.int (((q1.toUInt32 >>> ((24 : Int32) &&& 31).toUInt32).toInt32) &&& (3 : Int32)))])) t → Steps p.tables e below (s₁.setTop (entryFrame m #[(.int q1), (.int q2)] 3)) t := fun t kt => pre5 t (by
          show Steps p.tables e below (s₁.setTop (mkF m 41 #[.val (.int q1), .val (.int q2), .val (.int (((q1.toUInt32 >>> ((24 : Int32) &&& 31).toUInt32).toInt32) &&& (3 : Int32)))] [(.int (2 : Int32)), (.int (((q1.toUInt32 >>> ((24 : Int32) &&& 31).toUInt32).toInt32) &&& (3 : Int32)))])) _
          refine XS.icmpYes X0.here hx rfl (pc0 := 41) (pc' := 65) rfl (hb hby d11_41) rfl (tlt hcx6).1 (by decide) (by decide) ?_
          show Steps p.tables e below (s₁.setTop (mkF m 65 #[.val (.int q1), .val (.int q2), .val (.int (((q1.toUInt32 >>> ((24 : Int32) &&& 31).toUInt32).toInt32) &&& (3 : Int32)))] [])) _
          refine XS.iloadN X0.here hx rfl (hb hby d11_65) rfl ?_
          show Steps p.tables e below (s₁.setTop (mkF m 66 #[.val (.int q1), .val (.int q2), .val (.int (((q1.toUInt32 >>> ((24 : Int32) &&& 31).toUInt32).toInt32) &&& (3 : Int32)))] [(.int (((q1.toUInt32 >>> ((24 : Int32) &&& 31).toUInt32).toInt32) &&& (3 : Int32)))])) _
          refine XS.iconst X0.here hx rfl (hb hby d11_66) ?_
          exact kt)
        by_cases hcx8 : (((q1.toUInt32 >>> ((24 : Int32) &&& 31).toUInt32).toInt32) &&& (3 : Int32)) < (3 : Int32)
        · skip
          obtain ⟨fs, hr, hrun, hended, hW, hsame⟩ := X0.leave (v := (some (.int (1 : Int32)))) (fun h => by rw [Bd.returns] at h; cases h)
          refine ⟨_, _, pre7 _ ?_, hrun, hended, _, _, rfl, ?_, ⟨_, rfl⟩, hW, hsame.mono (by decide) (by decide)⟩
          · show Steps p.tables e below (s₁.setTop (mkF m 67 #[.val (.int q1), .val (.int q2), .val (.int (((q1.toUInt32 >>> ((24 : Int32) &&& 31).toUInt32).toInt32) &&& (3 : Int32)))] [(.int (3 : Int32)), (.int (((q1.toUInt32 >>> ((24 : Int32) &&& 31).toUInt32).toInt32) &&& (3 : Int32)))])) _
            refine XS.icmpYes X0.here hx rfl (pc0 := 67) (pc' := 91) rfl (hb hby d11_67) rfl (tlt hcx8).1 (by decide) (by decide) ?_
            show Steps p.tables e below (s₁.setTop (mkF m 91 #[.val (.int q1), .val (.int q2), .val (.int (((q1.toUInt32 >>> ((24 : Int32) &&& 31).toUInt32).toInt32) &&& (3 : Int32)))] [])) _
            refine XS.iconst X0.here hx rfl (hb hby d11_91) ?_
            show Steps p.tables e below (s₁.setTop (mkF m 92 #[.val (.int q1), .val (.int q2), .val (.int (((q1.toUInt32 >>> ((24 : Int32) &&& 31).toUInt32).toInt32) &&& (3 : Int32)))] [(.int (1 : Int32))])) _
            exact retN X0 hx (t := .boolean) Bd.returns (by simp) (hb hby d11_92) hr
          · show Qsame Z q1 q2 h0 n0 _ s₁.heap _
            rw [e0]
            exact ⟨N0, rfl, Or.inl ⟨rfl, (own_c3iff (own_and3 _) (own_and3 _)).mpr ⟨hcx2, Or.inl hcx4, Or.inl hcx6, Or.inl hcx8⟩⟩⟩
        · skip
          have pre9 : ∀ t, Steps p.tables e below (s₁.setTop (mkF m 86 #[.val (.int q1), .val (.int q2), .val (.int (((q1.toUInt32 >>> ((24 : Int32) &&& 31).toUInt32).toInt32) &&& (3 : Int32)))] [(.int (((q2.toUInt32 >>> ((16 : Int32) &&& 31).toUInt32).toInt32) &&& (255 : Int32))), (.int (((q1.toUInt32 >>> ((16 : Int32) &&& 31).toUInt32).toInt32) &&& (255 : Int32)))])) t → Steps p.tables e below (s₁.setTop (entryFrame m #[(.int q1), (.int q2)] 3)) t := fun t kt => pre7 t (by
            show Steps p.tables e below (s₁.setTop (mkF m 67 #[.val (.int q1), .val (.int q2), .val (.int (((q1.toUInt32 >>> ((24 : Int32) &&& 31).toUInt32).toInt32) &&& (3 : Int32)))] [(.int (3 : Int32)), (.int (((q1.toUInt32 >>> ((24 : Int32) &&& 31).toUInt32).toInt32) &&& (3 : Int32)))])) _
            refine XS.icmpNo X0.here hx rfl (hb hby d11_67) rfl (flt hcx8).1 ?_
            show Steps p.tables e below (s₁.setTop (mkF m 70 #[.val (.int q1), .val (.int q2), .val (.int (((q1.toUInt32 >>> ((24 : Int32) &&& 31).toUInt32).toInt32) &&& (3 : Int32)))] [])) _
            refine XS.iloadN X0.here hx rfl (hb hby d11_70) rfl ?_
            show Steps p.tables e below (s₁.setTop (mkF m 71 #[.val (.int q1), .val (.int q2), .val (.int (((q1.toUInt32 >>> ((24 : Int32) &&& 31).toUInt32).toInt32) &&& (3 : Int32)))] [(.int q1)])) _
            refine XS.bipush X0.here hx rfl (hb hby d11_71) ?_
            show Steps p.tables e below (s₁.setTop (mkF m 73 #[.val (.int q1), .val (.int q2), .val (.int (((q1.toUInt32 >>> ((24 : Int32) &&& 31).toUInt32).toInt32) &&& (3 : Int32)))] [(.int (16 : Int32)), (.int q1)])) _
            refine XS.iushr X0.here hx rfl (hb hby d11_73) rfl ?_
            show Steps p.tables e below (s₁.setTop (mkF m 74 #[.val (.int q1), .val (.int q2), .val (.int (((q1.toUInt32 >>> ((24 : Int32) &&& 31).toUInt32).toInt32) &&& (3 : Int32)))] [(.int ((q1.toUInt32 >>> ((16 : Int32) &&& 31).toUInt32).toInt32))])) _
            refine XS.sipush X0.here hx rfl (hb hby d11_74) ?_
            show Steps p.tables e below (s₁.setTop (mkF m 77 #[.val (.int q1), .val (.int q2), .val (.int (((q1.toUInt32 >>> ((24 : Int32) &&& 31).toUInt32).toInt32) &&& (3 : Int32)))] [(.int (255 : Int32)), (.int ((q1.toUInt32 >>> ((16 : Int32) &&& 31).toUInt32).toInt32))])) _
            refine XS.iand X0.here hx rfl (hb hby d11_77) rfl ?_
            show Steps p.tables e below (s₁.setTop (mkF m 78 #[.val (.int q1), .val (.int q2), .val (.int (((q1.toUInt32 >>> ((24 : Int32) &&& 31).toUInt32).toInt32) &&& (3 : Int32)))] [(.int (((q1.toUInt32 >>> ((16 : Int32) &&& 31).toUInt32).toInt32) &&& (255 : Int32)))])) _
            refine XS.iloadN X0.here hx rfl (hb hby d11_78) rfl ?_
            show Steps p.tables e below (s₁.setTop (mkF m 79 #[.val (.int q1), .val (.int q2), .val (.int (((q1.toUInt32 >>> ((24 : Int32) &&& 31).toUInt32).toInt32) &&& (3 : Int32)))] [(.int q2), (.int (((q1.toUInt32 >>> ((16 : Int32) &&& 31).toUInt32).toInt32) &&& (255 : Int32)))])) _
            refine XS.bipush X0.here hx rfl (hb hby d11_79) ?_
            show Steps p.tables e below (s₁.setTop (mkF m 81 #[.val (.int q1), .val (.int q2), .val (.int (((q1.toUInt32 >>> ((24 : Int32) &&& 31).toUInt32).toInt32) &&& (3 : Int32)))] [(.int (16 : Int32)), (.int q2), (.int (((q1.toUInt32 >>> ((16 : Int32) &&& 31).toUInt32).toInt32) &&& (255 : Int32)))])) _
            refine XS.iushr X0.here hx rfl (hb hby d11_81) rfl ?_
            show Steps p.tables e below (s₁.setTop (mkF m 82 #[.val (.int q1), .val (.int q2), .val (.int (((q1.toUInt32 >>> ((24 : Int32) &&& 31).toUInt32).toInt32) &&& (3 : Int32)))] [(.int ((q2.toUInt32 >>> ((16 : Int32) &&& 31).toUInt32).toInt32)), (.int (((q1.toUInt32 >>> ((16 : Int32) &&& 31).toUInt32).toInt32) &&& (255 : Int32)))])) _
            refine XS.sipush X0.here hx rfl (hb hby d11_82) ?_
            show Steps p.tables e below (s₁.setTop (mkF m 85 #[.val (.int q1), .val (.int q2), .val (.int (((q1.toUInt32 >>> ((24 : Int32) &&& 31).toUInt32).toInt32) &&& (3 : Int32)))] [(.int (255 : Int32)), (.int ((q2.toUInt32 >>> ((16 : Int32) &&& 31).toUInt32).toInt32)), (.int (((q1.toUInt32 >>> ((16 : Int32) &&& 31).toUInt32).toInt32) &&& (255 : Int32)))])) _
            refine XS.iand X0.here hx rfl (hb hby d11_85) rfl ?_
            exact kt)
          by_cases hcx10 : (((q1.toUInt32 >>> ((16 : Int32) &&& 31).toUInt32).toInt32) &&& (255 : Int32)) = (((q2.toUInt32 >>> ((16 : Int32) &&& 31).toUInt32).toInt32) &&& (255 : Int32))
          · skip
            obtain ⟨fs, hr, hrun, hended, hW, hsame⟩ := X0.leave (v := (some (.int (1 : Int32)))) (fun h => by rw [Bd.returns] at h; cases h)
            refine ⟨_, _, pre9 _ ?_, hrun, hended, _, _, rfl, ?_, ⟨_, rfl⟩, hW, hsame.mono (by decide) (by decide)⟩
            · show Steps p.tables e below (s₁.setTop (mkF m 86 #[.val (.int q1), .val (.int q2), .val (.int (((q1.toUInt32 >>> ((24 : Int32) &&& 31).toUInt32).toInt32) &&& (3 : Int32)))] [(.int (((q2.toUInt32 >>> ((16 : Int32) &&& 31).toUInt32).toInt32) &&& (255 : Int32))), (.int (((q1.toUInt32 >>> ((16 : Int32) &&& 31).toUInt32).toInt32) &&& (255 : Int32)))])) _
              refine XS.icmpYes X0.here hx rfl (pc0 := 86) (pc' := 91) rfl (hb hby d11_86) rfl (teq hcx10).1 (by decide) (by decide) ?_
              show Steps p.tables e below (s₁.setTop (mkF m 91 #[.val (.int q1), .val (.int q2), .val (.int (((q1.toUInt32 >>> ((24 : Int32) &&& 31).toUInt32).toInt32) &&& (3 : Int32)))] [])) _
              refine XS.iconst X0.here hx rfl (hb hby d11_91) ?_
              show Steps p.tables e below (s₁.setTop (mkF m 92 #[.val (.int q1), .val (.int q2), .val (.int (((q1.toUInt32 >>> ((24 : Int32) &&& 31).toUInt32).toInt32) &&& (3 : Int32)))] [(.int (1 : Int32))])) _
              exact retN X0 hx (t := .boolean) Bd.returns (by simp) (hb hby d11_92) hr
            · show Qsame Z q1 q2 h0 n0 _ s₁.heap _
              rw [e0]
              exact ⟨N0, rfl, Or.inl ⟨rfl, (own_c3iff (own_and3 _) (own_and3 _)).mpr ⟨hcx2, Or.inl hcx4, Or.inl hcx6, Or.inr hcx10⟩⟩⟩
          · skip
            obtain ⟨fs, hr, hrun, hended, hW, hsame⟩ := X0.leave (v := (some (.int (0 : Int32)))) (fun h => by rw [Bd.returns] at h; cases h)
            refine ⟨_, _, pre9 _ ?_, hrun, hended, _, _, rfl, ?_, ⟨_, rfl⟩, hW, hsame.mono (by decide) (by decide)⟩
            · show Steps p.tables e below (s₁.setTop (mkF m 86 #[.val (.int q1), .val (.int q2), .val (.int (((q1.toUInt32 >>> ((24 : Int32) &&& 31).toUInt32).toInt32) &&& (3 : Int32)))] [(.int (((q2.toUInt32 >>> ((16 : Int32) &&& 31).toUInt32).toInt32) &&& (255 : Int32))), (.int (((q1.toUInt32 >>> ((16 : Int32) &&& 31).toUInt32).toInt32) &&& (255 : Int32)))])) _
              refine XS.icmpNo X0.here hx rfl (hb hby d11_86) rfl (feq hcx10).1 ?_
              show Steps p.tables e below (s₁.setTop (mkF m 89 #[.val (.int q1), .val (.int q2), .val (.int (((q1.toUInt32 >>> ((24 : Int32) &&& 31).toUInt32).toInt32) &&& (3 : Int32)))] [])) _
              refine XS.iconst X0.here hx rfl (hb hby d11_89) ?_
              show Steps p.tables e below (s₁.setTop (mkF m 90 #[.val (.int q1), .val (.int q2), .val (.int (((q1.toUInt32 >>> ((24 : Int32) &&& 31).toUInt32).toInt32) &&& (3 : Int32)))] [(.int (0 : Int32))])) _
              exact retN X0 hx (t := .boolean) Bd.returns (by simp) (hb hby d11_90) hr
            · show Qsame Z q1 q2 h0 n0 _ s₁.heap _
              rw [e0]
              exact ⟨N0, rfl, Or.inr ⟨rfl, fun q => ((own_c3iff (own_and3 _) (own_and3 _)).mp q).2.2.2.elim hcx8 hcx10⟩⟩
      · skip
        have pre11 : ∀ t, Steps p.tables e below (s₁.setTop (mkF m 60 #[.val (.int q1), .val (.int q2), .val (.int (((q1.toUInt32 >>> ((24 : Int32) &&& 31).toUInt32).toInt32) &&& (3 : Int32)))] [(.int (((q2.toUInt32 >>> ((8 : Int32) &&& 31).toUInt32).toInt32) &&& (255 : Int32))), (.int (((q1.toUInt32 >>> ((8 : Int32) &&& 31).toUInt32).toInt32) &&& (255 : Int32)))])) t → Steps p.tables e below (s₁.setTop (entryFrame m #[(.int q1), (.int q2)] 3)) t := fun t kt => pre5 t (by
          show Steps p.tables e below (s₁.setTop (mkF m 41 #[.val (.int q1), .val (.int q2), .val (.int (((q1.toUInt32 >>> ((24 : Int32) &&& 31).toUInt32).toInt32) &&& (3 : Int32)))] [(.int (2 : Int32)), (.int (((q1.toUInt32 >>> ((24 : Int32) &&& 31).toUInt32).toInt32) &&& (3 : Int32)))])) _
          refine XS.icmpNo X0.here hx rfl (hb hby d11_41) rfl (flt hcx6).1 ?_
          show Steps p.tables e below (s₁.setTop (mkF m 44 #[.val (.int q1), .val (.int q2), .val (.int (((q1.toUInt32 >>> ((24 : Int32) &&& 31).toUInt32).toInt32) &&& (3 : Int32)))] [])) _
          refine XS.iloadN X0.here hx rfl (hb hby d11_44) rfl ?_
          show Steps p.tables e below (s₁.setTop (mkF m 45 #[.val (.int q1), .val (.int q2), .val (.int (((q1.toUInt32 >>> ((24 : Int32) &&& 31).toUInt32).toInt32) &&& (3 : Int32)))] [(.int q1)])) _
          refine XS.bipush X0.here hx rfl (hb hby d11_45) ?_
          show Steps p.tables e below (s₁.setTop (mkF m 47 #[.val (.int q1), .val (.int q2), .val (.int (((q1.toUInt32 >>> ((24 : Int32) &&& 31).toUInt32).toInt32) &&& (3 : Int32)))] [(.int (8 : Int32)), (.int q1)])) _
          refine XS.iushr X0.here hx rfl (hb hby d11_47) rfl ?_
          show Steps p.tables e below (s₁.setTop (mkF m 48 #[.val (.int q1), .val (.int q2), .val (.int (((q1.toUInt32 >>> ((24 : Int32) &&& 31).toUInt32).toInt32) &&& (3 : Int32)))] [(.int ((q1.toUInt32 >>> ((8 : Int32) &&& 31).toUInt32).toInt32))])) _
          refine XS.sipush X0.here hx rfl (hb hby d11_48) ?_
          show Steps p.tables e below (s₁.setTop (mkF m 51 #[.val (.int q1), .val (.int q2), .val (.int (((q1.toUInt32 >>> ((24 : Int32) &&& 31).toUInt32).toInt32) &&& (3 : Int32)))] [(.int (255 : Int32)), (.int ((q1.toUInt32 >>> ((8 : Int32) &&& 31).toUInt32).toInt32))])) _
          refine XS.iand X0.here hx rfl (hb hby d11_51) rfl ?_
          show Steps p.tables e below (s₁.setTop (mkF m 52 #[.val (.int q1), .val (.int q2), .val (.int (((q1.toUInt32 >>> ((24 : Int32) &&& 31).toUInt32).toInt32) &&& (3 : Int32)))] [(.int (((q1.toUInt32 >>> ((8 : Int32) &&& 31).toUInt32).toInt32) &&& (255 : Int32)))])) _
          refine XS.iloadN X0.here hx rfl (hb hby d11_52) rfl ?_
          show Steps p.tables e below (s₁.setTop (mkF m 53 #[.val (.int q1), .val (.int q2), .val (.int (((q1.toUInt32 >>> ((24 : Int32) &&& 31).toUInt32).toInt32) &&& (3 : Int32)))] [(.int q2), (.int (((q1.toUInt32 >>> ((8 : Int32) &&& 31).toUInt32).toInt32) &&& (255 : Int32)))])) _
          refine XS.bipush X0.here hx rfl (hb hby d11_53) ?_
          show Steps p.tables e below (s₁.setTop (mkF m 55 #[.val (.int q1), .val (.int q2), .val (.int (((q1.toUInt32 >>> ((24 : Int32) &&& 31).toUInt32).toInt32) &&& (3 : Int32)))] [(.int (8 : Int32)), (.int q2), (.int (((q1.toUInt32 >>> ((8 : Int32) &&& 31).toUInt32).toInt32) &&& (255 : Int32)))])) _
          refine XS.iushr X0.here hx rfl (hb hby d11_55) rfl ?_
          show Steps p.tables e below (s₁.setTop (mkF m 56 #[.val (.int q1), .val (.int q2), .val (.int (((q1.toUInt32 >>> ((24 : Int32) &&& 31).toUInt32).toInt32) &&& (3 : Int32)))] [(.int ((q2.toUInt32 >>> ((8 : Int32) &&& 31).toUInt32).toInt32)), (.int (((q1.toUInt32 >>> ((8 : Int32) &&& 31).toUInt32).toInt32) &&& (255 : Int32)))])) _
          refine XS.sipush X0.here hx rfl (hb hby d11_56) ?_
          show Steps p.tables e below (s₁.setTop (mkF m 59 #[.val (.int q1), .val (.int q2), .val (.int (((q1.toUInt32 >>> ((24 : Int32) &&& 31).toUInt32).toInt32) &&& (3 : Int32)))] [(.int (255 : Int32)), (.int ((q2.toUInt32 >>> ((8 : Int32) &&& 31).toUInt32).toInt32)), (.int (((q1.toUInt32 >>> ((8 : Int32) &&& 31).toUInt32).toInt32) &&& (255 : Int32)))])) _
          refine XS.iand X0.here hx rfl (hb hby d11_59) rfl ?_
          exact kt)
        by_cases hcx12 : (((q1.toUInt32 >>> ((8 : Int32) &&& 31).toUInt32).toInt32) &&& (255 : Int32)) = (((q2.toUInt32 >>> ((8 : Int32) &&& 31).toUInt32).toInt32) &&& (255 : Int32))
        · skip
          have pre13 : ∀ t, Steps p.tables e below (s₁.setTop (mkF m 67 #[.val (.int q1), .val (.int q2), .val (.int (((q1.toUInt32 >>> ((24 : Int32) &&& 31).toUInt32).toInt32) &&& (3 : Int32)))] [(.int (3 : Int32)), (.int (((q1.toUInt32 >>> ((24 : Int32) &&& 31).toUInt32).toInt32) &&& (3 : Int32)))])) t → Steps p.tables e below (s₁.setTop (entryFrame m #[(.int q1), (.int q2)] 3)) t := fun t kt => pre11 t (by
            show Steps p.tables e below (s₁.setTop (mkF m 60 #[.val (.int q1), .val (.int q2), .val (.int (((q1.toUInt32 >>> ((24 : Int32) &&& 31).toUInt32).toInt32) &&& (3 : Int32)))] [(.int (((q2.toUInt32 >>> ((8 : Int32) &&& 31).toUInt32).toInt32) &&& (255 : Int32))), (.int (((q1.toUInt32 >>> ((8 : Int32) &&& 31).toUInt32).toInt32) &&& (255 : Int32)))])) _
            refine XS.icmpYes X0.here hx rfl (pc0 := 60) (pc' := 65) rfl (hb hby d11_60) rfl (teq hcx12).1 (by decide) (by decide) ?_
            show Steps p.tables e below (s₁.setTop (mkF m 65 #[.val (.int q1), .val (.int q2), .val (.int (((q1.toUInt32 >>> ((24 : Int32) &&& 31).toUInt32).toInt32) &&& (3 : Int32)))] [])) _
            refine XS.iloadN X0.here hx rfl (hb hby d11_65) rfl ?_
            show Steps p.tables e below (s₁.setTop (mkF m 66 #[.val (.int q1), .val (.int q2), .val (.int (((q1.toUInt32 >>> ((24 : Int32) &&& 31).toUInt32).toInt32) &&& (3 : Int32)))] [(.int (((q1.toUInt32 >>> ((24 : Int32) &&& 31).toUInt32).toInt32) &&& (3 : Int32)))])) _
            refine XS.iconst X0.here hx rfl (hb hby d11_66) ?_
            exact kt)
          by_cases hcx14 : (((q1.toUInt32 >>> ((24 : Int32) &&& 31).toUInt32).toInt32) &&& (3 : Int32)) < (3 : Int32)
          · skip
            obtain ⟨fs, hr, hrun, hended, hW, hsame⟩ := X0.leave (v := (some (.int (1 : Int32)))) (fun h => by rw [Bd.returns] at h; cases h)
            refine ⟨_, _, pre13 _ ?_, hrun, hended, _, _, rfl, ?_, ⟨_, rfl⟩, hW, hsame.mono (by decide) (by decide)⟩
            · show Steps p.tables e below (s₁.setTop (mkF m 67 #[.val (.int q1), .val (.int q2), .val (.int (((q1.toUInt32 >>> ((24 : Int32) &&& 31).toUInt32).toInt32) &&& (3 : Int32)))] [(.int (3 : Int32)), (.int (((q1.toUInt32 >>> ((24 : Int32) &&& 31).toUInt32).toInt32) &&& (3 : Int32)))])) _
              refine XS.icmpYes X0.here hx rfl (pc0 := 67) (pc' := 91) rfl (hb hby d11_67) rfl (tlt hcx14).1 (by decide) (by decide) ?_
              show Steps p.tables e below (s₁.setTop (mkF m 91 #[.val (.int q1), .val (.int q2), .val (.int (((q1.toUInt32 >>> ((24 : Int32) &&& 31).toUInt32).toInt32) &&& (3 : Int32)))] [])) _
              refine XS.iconst X0.here hx rfl (hb hby d11_91) ?_
              show Steps p.tables e below (s₁.setTop (mkF m 92 #[.val (.int q1), .val (.int q2), .val (.int (((q1.toUInt32 >>> ((24 : Int32) &&& 31).toUInt32).toInt32) &&& (3 : Int32)))] [(.int (1 : Int32))])) _
              exact retN X0 hx (t := .boolean) Bd.returns (by simp) (hb hby d11_92) hr
            · show Qsame Z q1 q2 h0 n0 _ s₁.heap _
              rw [e0]
              exact ⟨N0, rfl, Or.inl ⟨rfl, (own_c3iff (own_and3 _) (own_and3 _)).mpr ⟨hcx2, Or.inl hcx4, Or.inr hcx12, Or.inl hcx14⟩⟩⟩
          · skip
            have pre15 : ∀ t, Steps p.tables e below (s₁.setTop (mkF m 86 #[.val (.int q1), .val (.int q2), .val (.int (((q1.toUInt32 >>> ((24 : Int32) &&& 31).toUInt32).toInt32) &&& (3 : Int32)))] [(.int (((q2.toUInt32 >>> ((16 : Int32) &&& 31).toUInt32).toInt32) &&& (255 : Int32))), (.int (((q1.toUInt32 >>> ((16 : Int32) &&& 31).toUInt32).toInt32) &&& (255 : Int32)))])) t → Steps p.tables e below (s₁.setTop (entryFrame m #[(.int q1), (.int q2)] 3)) t := fun t kt => pre13 t (by
              show Steps p.tables e below (s₁.setTop (mkF m 67 #[.val (.int q1), .val (.int q2), .val (.int (((q1.toUInt32 >>> ((24 : Int32) &&& 31).toUInt32).toInt32) &&& (3 : Int32)))] [(.int (3 : Int32)), (.int (((q1.toUInt32 >>> ((24 : Int32) &&& 31).toUInt32).toInt32) &&& (3 : Int32)))])) _
              refine XS.icmpNo X0.here hx rfl (hb hby d11_67) rfl (flt hcx14).1 ?_
              show Steps p.tables e below (s₁.setTop (mkF m 70 #[.val (.int q1), .val (.int q2), .val (.int (((q1.toUInt32 >>> ((24 : Int32) &&& 31).toUInt32).toInt32) &&& (3 : Int32)))] [])) _
              refine XS.iloadN X0.here hx rfl (hb hby d11_70) rfl ?_
              show Steps p.tables e below (s₁.setTop (mkF m 71 #[.val (.int q1), .val (.int q2), .val (.int (((q1.toUInt32 >>> ((24 : Int32) &&& 31).toUInt32).toInt32) &&& (3 : Int32)))] [(.int q1)])) _
              refine XS.bipush X0.here hx rfl (hb hby d11_71) ?_
              show Steps p.tables e below (s₁.setTop (mkF m 73 #[.val (.int q1), .val (.int q2), .val (.int (((q1.toUInt32 >>> ((24 : Int32) &&& 31).toUInt32).toInt32) &&& (3 : Int32)))] [(.int (16 : Int32)), (.int q1)])) _
              refine XS.iushr X0.here hx rfl (hb hby d11_73) rfl ?_
              show Steps p.tables e below (s₁.setTop (mkF m 74 #[.val (.int q1), .val (.int q2), .val (.int (((q1.toUInt32 >>> ((24 : Int32) &&& 31).toUInt32).toInt32) &&& (3 : Int32)))] [(.int ((q1.toUInt32 >>> ((16 : Int32) &&& 31).toUInt32).toInt32))])) _
              refine XS.sipush X0.here hx rfl (hb hby d11_74) ?_
              show Steps p.tables e below (s₁.setTop (mkF m 77 #[.val (.int q1), .val (.int q2), .val (.int (((q1.toUInt32 >>> ((24 : Int32) &&& 31).toUInt32).toInt32) &&& (3 : Int32)))] [(.int (255 : Int32)), (.int ((q1.toUInt32 >>> ((16 : Int32) &&& 31).toUInt32).toInt32))])) _
              refine XS.iand X0.here hx rfl (hb hby d11_77) rfl ?_
              show Steps p.tables e below (s₁.setTop (mkF m 78 #[.val (.int q1), .val (.int q2), .val (.int (((q1.toUInt32 >>> ((24 : Int32) &&& 31).toUInt32).toInt32) &&& (3 : Int32)))] [(.int (((q1.toUInt32 >>> ((16 : Int32) &&& 31).toUInt32).toInt32) &&& (255 : Int32)))])) _
              refine XS.iloadN X0.here hx rfl (hb hby d11_78) rfl ?_
              show Steps p.tables e below (s₁.setTop (mkF m 79 #[.val (.int q1), .val (.int q2), .val (.int (((q1.toUInt32 >>> ((24 : Int32) &&& 31).toUInt32).toInt32) &&& (3 : Int32)))] [(.int q2), (.int (((q1.toUInt32 >>> ((16 : Int32) &&& 31).toUInt32).toInt32) &&& (255 : Int32)))])) _
              refine XS.bipush X0.here hx rfl (hb hby d11_79) ?_
              show Steps p.tables e below (s₁.setTop (mkF m 81 #[.val (.int q1), .val (.int q2), .val (.int (((q1.toUInt32 >>> ((24 : Int32) &&& 31).toUInt32).toInt32) &&& (3 : Int32)))] [(.int (16 : Int32)), (.int q2), (.int (((q1.toUInt32 >>> ((16 : Int32) &&& 31).toUInt32).toInt32) &&& (255 : Int32)))])) _
              refine XS.iushr X0.here hx rfl (hb hby d11_81) rfl ?_
              show Steps p.tables e below (s₁.setTop (mkF m 82 #[.val (.int q1), .val (.int q2), .val (.int (((q1.toUInt32 >>> ((24 : Int32) &&& 31).toUInt32).toInt32) &&& (3 : Int32)))] [(.int ((q2.toUInt32 >>> ((16 : Int32) &&& 31).toUInt32).toInt32)), (.int (((q1.toUInt32 >>> ((16 : Int32) &&& 31).toUInt32).toInt32) &&& (255 : Int32)))])) _
              refine XS.sipush X0.here hx rfl (hb hby d11_82) ?_
              show Steps p.tables e below (s₁.setTop (mkF m 85 #[.val (.int q1), .val (.int q2), .val (.int (((q1.toUInt32 >>> ((24 : Int32) &&& 31).toUInt32).toInt32) &&& (3 : Int32)))] [(.int (255 : Int32)), (.int ((q2.toUInt32 >>> ((16 : Int32) &&& 31).toUInt32).toInt32)), (.int (((q1.toUInt32 >>> ((16 : Int32) &&& 31).toUInt32).toInt32) &&& (255 : Int32)))])) _
              refine XS.iand X0.here hx rfl (hb hby d11_85) rfl ?_
              exact kt)
            by_cases hcx16 : (((q1.toUInt32 >>> ((16 : Int32) &&& 31).toUInt32).toInt32) &&& (255 : Int32)) = (((q2.toUInt32 >>> ((16 : Int32) &&& 31).toUInt32).toInt32) &&& (255 : Int32))
            · skip
              obtain ⟨fs, hr, hrun, hended, hW, hsame⟩ := X0.leave (v := (some (.int (1 : Int32)))) (fun h => by rw [Bd.returns] at h; cases h)
              refine ⟨_, _, pre15 _ ?_, hrun, hended, _, _, rfl, ?_, ⟨_, rfl⟩, hW, hsame.mono (by decide) (by decide)⟩
              · show Steps p.tables e below (s₁.setTop (mkF m 86 #[.val (.int q1), .val (.int q2), .val (.int (((q1.toUInt32 >>> ((24 : Int32) &&& 31).toUInt32).toInt32) &&& (3 : Int32)))] [(.int (((q2.toUInt32 >>> ((16 : Int32) &&& 31).toUInt32).toInt32) &&& (255 : Int32))), (.int (((q1.toUInt32 >>> ((16 : Int32) &&& 31).toUInt32).toInt32) &&& (255 : Int32)))])) _
                refine XS.icmpYes X0.here hx rfl (pc0 := 86) (pc' := 91) rfl (hb hby d11_86) rfl (teq hcx16).1 (by decide) (by decide) ?_
                show Steps p.tables e below (s₁.setTop (mkF m 91 #[.val (.int q1), .val (.int q2), .val (.int (((q1.toUInt32 >>> ((24 : Int32) &&& 31).toUInt32).toInt32) &&& (3 : Int32)))] [])) _
                refine XS.iconst X0.here hx rfl (hb hby d11_91) ?_
                show Steps p.tables e below (s₁.setTop (mkF m 92 #[.val (.int q1), .val (.int q2), .val (.int (((q1.toUInt32 >>> ((24 : Int32) &&& 31).toUInt32).toInt32) &&& (3 : Int32)))] [(.int (1 : Int32))])) _
                exact retN X0 hx (t := .boolean) Bd.returns (by simp) (hb hby d11_92) hr
              · show Qsame Z q1 q2 h0 n0 _ s₁.heap _
                rw [e0]
                exact ⟨N0, rfl, Or.inl ⟨rfl, (own_c3iff (own_and3 _) (own_and3 _)).mpr ⟨hcx2, Or.inl hcx4, Or.inr hcx12, Or.inr hcx16⟩⟩⟩
            · skip
              obtain ⟨fs, hr, hrun, hended, hW, hsame⟩ := X0.leave (v := (some (.int (0 : Int32)))) (fun h => by rw [Bd.returns] at h; cases h)
              refine ⟨_, _, pre15 _ ?_, hrun, hended, _, _, rfl, ?_, ⟨_, rfl⟩, hW, hsame.mono (by decide) (by decide)⟩
              · show Steps p.tables e below (s₁.setTop (mkF m 86 #[.val (.int q1), .val (.int q2), .val (.int (((q1.toUInt32 >>> ((24 : Int32) &&& 31).toUInt32).toInt32) &&& (3 : Int32)))] [(.int (((q2.toUInt32 >>> ((16 : Int32) &&& 31).toUInt32).toInt32) &&& (255 : Int32))), (.int (((q1.toUInt32 >>> ((16 : Int32) &&& 31).toUInt32).toInt32) &&& (255 : Int32)))])) _
                refine XS.icmpNo X0.here hx rfl (hb hby d11_86) rfl (feq hcx16).1 ?_
                show Steps p.tables e below (s₁.setTop (mkF m 89 #[.val (.int q1), .val (.int q2), .val (.int (((q1.toUInt32 >>> ((24 : Int32) &&& 31).toUInt32).toInt32) &&& (3 : Int32)))] [])) _
                refine XS.iconst X0.here hx rfl (hb hby d11_89) ?_
                show Steps p.tables e below (s₁.setTop (mkF m 90 #[.val (.int q1), .val (.int q2), .val (.int (((q1.toUInt32 >>> ((24 : Int32) &&& 31).toUInt32).toInt32) &&& (3 : Int32)))] [(.int (0 : Int32))])) _
                exact retN X0 hx (t := .boolean) Bd.returns (by simp) (hb hby d11_90) hr
              · show Qsame Z q1 q2 h0 n0 _ s₁.heap _
                rw [e0]
                exact ⟨N0, rfl, Or.inr ⟨rfl, fun q => ((own_c3iff (own_and3 _) (own_and3 _)).mp q).2.2.2.elim hcx14 hcx16⟩⟩
        · skip
          obtain ⟨fs, hr, hrun, hended, hW, hsame⟩ := X0.leave (v := (some (.int (0 : Int32)))) (fun h => by rw [Bd.returns] at h; cases h)
          refine ⟨_, _, pre11 _ ?_, hrun, hended, _, _, rfl, ?_, ⟨_, rfl⟩, hW, hsame.mono (by decide) (by decide)⟩
          · show Steps p.tables e below (s₁.setTop (mkF m 60 #[.val (.int q1), .val (.int q2), .val (.int (((q1.toUInt32 >>> ((24 : Int32) &&& 31).toUInt32).toInt32) &&& (3 : Int32)))] [(.int (((q2.toUInt32 >>> ((8 : Int32) &&& 31).toUInt32).toInt32) &&& (255 : Int32))), (.int (((q1.toUInt32 >>> ((8 : Int32) &&& 31).toUInt32).toInt32) &&& (255 : Int32)))])) _
            refine XS.icmpNo X0.here hx rfl (hb hby d11_60) rfl (feq hcx12).1 ?_
            show Steps p.tables e below (s₁.setTop (mkF m 63 #[.val (.int q1), .val (.int q2), .val (.int (((q1.toUInt32 >>> ((24 : Int32) &&& 31).toUInt32).toInt32) &&& (3 : Int32)))] [])) _
            refine XS.iconst X0.here hx rfl (hb hby d11_63) ?_
            show Steps p.tables e below (s₁.setTop (mkF m 64 #[.val (.int q1), .val (.int q2), .val (.int (((q1.toUInt32 >>> ((24 : Int32) &&& 31).toUInt32).toInt32) &&& (3 : Int32)))] [(.int (0 : Int32))])) _
            exact retN X0 hx (t := .boolean) Bd.returns (by simp) (hb hby d11_64) hr
          · show Qsame Z q1 q2 h0 n0 _ s₁.heap _
            rw [e0]
            exact ⟨N0, rfl, Or.inr ⟨rfl, fun q => ((own_c3iff (own_and3 _) (own_and3 _)).mp q).2.2.1.elim hcx6 hcx12⟩⟩
    · skip
      have pre17 : ∀ t, Steps p.tables e below (s₁.setTop (mkF m 34 #[.val (.int q1), .val (.int q2), .val (.int (((q1.toUInt32 >>> ((24 : Int32) &&& 31).toUInt32).toInt32) &&& (3 : Int32)))] [(.int (q2 &&& (255 : Int32))), (.int (q1 &&& (255 : Int32)))])) t → Steps p.tables e below (s₁.setTop (entryFrame m #[(.int q1), (.int q2)] 3)) t := fun t kt => pre3 t (by
        show Steps p.tables e below (s₁.setTop (mkF m 21 #[.val (.int q1), .val (.int q2), .val (.int (((q1.toUInt32 >>> ((24 : Int32) &&& 31).toUInt32).toInt32) &&& (3 : Int32)))] [(.int (1 : Int32)), (.int (((q1.toUInt32 >>> ((24 : Int32) &&& 31).toUInt32).toInt32) &&& (3 : Int32)))])) _
        refine XS.icmpNo X0.here hx rfl (hb hby d11_21) rfl (flt hcx4).1 ?_
        show Steps p.tables e below (s₁.setTop (mkF m 24 #[.val (.int q1), .val (.int q2), .val (.int (((q1.toUInt32 >>> ((24 : Int32) &&& 31).toUInt32).toInt32) &&& (3 : Int32)))] [])) _
        refine XS.iloadN X0.here hx rfl (hb hby d11_24) rfl ?_
        show Steps p.tables e below (s₁.setTop (mkF m 25 #[.val (.int q1), .val (.int q2), .val (.int (((q1.toUInt32 >>> ((24 : Int32) &&& 31).toUInt32).toInt32) &&& (3 : Int32)))] [(.int q1)])) _
        refine XS.sipush X0.here hx rfl (hb hby d11_25) ?_
        show Steps p.tables e below (s₁.setTop (mkF m 28 #[.val (.int q1), .val (.int q2), .val (.int (((q1.toUInt32 >>> ((24 : Int32) &&& 31).toUInt32).toInt32) &&& (3 : Int32)))] [(.int (255 : Int32)), (.int q1)])) _
        refine XS.iand X0.here hx rfl (hb hby d11_28) rfl ?_
        show Steps p.tables e below (s₁.setTop (mkF m 29 #[.val (.int q1), .val (.int q2), .val (.int (((q1.toUInt32 >>> ((24 : Int32) &&& 31).toUInt32).toInt32) &&& (3 : Int32)))] [(.int (q1 &&& (255 : Int32)))])) _
        refine XS.iloadN X0.here hx rfl (hb hby d11_29) rfl ?_
        show Steps p.tables e below (s₁.setTop (mkF m 30 #[.val (.int q1), .val (.int q2), .val (.int (((q1.toUInt32 >>> ((24 : Int32) &&& 31).toUInt32).toInt32) &&& (3 : Int32)))] [(.int q2), (.int (q1 &&& (255 : Int32)))])) _
        refine XS.sipush X0.here hx rfl (hb hby d11_30) ?_
        show Steps p.tables e below (s₁.setTop (mkF m 33 #[.val (.int q1), .val (.int q2), .val (.int (((q1.toUInt32 >>> ((24 : Int32) &&& 31).toUInt32).toInt32) &&& (3 : Int32)))] [(.int (255 : Int32)), (.int q2), (.int (q1 &&& (255 : Int32)))])) _
        refine XS.iand X0.here hx rfl (hb hby d11_33) rfl ?_
        exact kt)
      by_cases hcx18 : (q1 &&& (255 : Int32)) = (q2 &&& (255 : Int32))
      · skip
        have pre19 : ∀ t, Steps p.tables e below (s₁.setTop (mkF m 41 #[.val (.int q1), .val (.int q2), .val (.int (((q1.toUInt32 >>> ((24 : Int32) &&& 31).toUInt32).toInt32) &&& (3 : Int32)))] [(.int (2 : Int32)), (.int (((q1.toUInt32 >>> ((24 : Int32) &&& 31).toUInt32).toInt32) &&& (3 : Int32)))])) t → Steps p.tables e below (s₁.setTop (entryFrame m #[(.int q1), (.int q2)] 3)) t := fun t kt => pre17 t (by
          show Steps p.tables e below (s₁.setTop (mkF m 34 #[.val (.int q1), .val (.int q2), .val (.int (((q1.toUInt32 >>> ((24 : Int32) &&& 31).toUInt32).toInt32) &&& (3 : Int32)))] [(.int (q2 &&& (255 : Int32))), (.int (q1 &&& (255 : Int32)))])) _
          refine XS.icmpYes X0.here hx rfl (pc0 := 34) (pc' := 39) rfl (hb hby d11_34) rfl (teq hcx18).1 (by decide) (by decide) ?_
          show Steps p.tables e below (s₁.setTop (mkF m 39 #[.val (.int q1), .val (.int q2), .val (.int (((q1.toUInt32 >>> ((24 : Int32) &&& 31).toUInt32).toInt32) &&& (3 : Int32)))] [])) _
          refine XS.iloadN X0.here hx rfl (hb hby d11_39) rfl ?_
          show Steps p.tables e below (s₁.setTop (mkF m 40 #[.val (.int q1), .val (.int q2), .val (.int (((q1.toUInt32 >>> ((24 : Int32) &&& 31).toUInt32).toInt32) &&& (3 : Int32)))] [(.int (((q1.toUInt32 >>> ((24 : Int32) &&& 31).toUInt32).toInt32) &&& (3 : Int32)))])) _
          refine XS.iconst X0.here hx rfl (hb hby d11_40) ?_
          exact kt)
        by_cases hcx20 : (((q1.toUInt32 >>> ((24 : Int32) &&& 31).toUInt32).toInt32) &&& (3 : Int32)) < (2 : Int32)
        · skip
          have pre21 : ∀ t, Steps p.tables e below (s₁.setTop (mkF m 67 #[.val (.int q1), .val (.int q2), .val (.int (((q1.toUInt32 >>> ((24 : Int32) &&& 31).toUInt32).toInt32) &&& (3 : Int32)))] [(.int (3 : Int32)), (.int (((q1.toUInt32 >>> ((24 : Int32) &&& 31).toUInt32).toInt32) &&& (3 : Int32)))])) t → Steps p.tables e below (s₁.setTop (entryFrame m #[(.int q1), (.int q2)] 3)) t := fun t kt => pre19 t (by
            show Steps p.tables e below (s₁.setTop (mkF m 41 #[.val (.int q1), .val (.int q2), .val (.int (((q1.toUInt32 >>> ((24 : Int32) &&& 31).toUInt32).toInt32) &&& (3 : Int32)))] [(.int (2 : Int32)), (.int (((q1.toUInt32 >>> ((24 : Int32) &&& 31).toUInt32).toInt32) &&& (3 : Int32)))])) _
            refine XS.icmpYes X0.here hx rfl (pc0 := 41) (pc' := 65) rfl (hb hby d11_41) rfl (tlt hcx20).1 (by decide) (by decide) ?_
            show Steps p.tables e below (s₁.setTop (mkF m 65 #[.val (.int q1), .val (.int q2), .val (.int (((q1.toUInt32 >>> ((24 : Int32) &&& 31).toUInt32).toInt32) &&& (3 : Int32)))] [])) _
            refine XS.iloadN X0.here hx rfl (hb hby d11_65) rfl ?_
            show Steps p.tables e below (s₁.setTop (mkF m 66 #[.val (.int q1), .val (.int q2), .val (.int (((q1.toUInt32 >>> ((24 : Int32) &&& 31).toUInt32).toInt32) &&& (3 : Int32)))] [(.int (((q1.toUInt32 >>> ((24 : Int32) &&& 31).toUInt32).toInt32) &&& (3 : Int32)))])) _
            refine XS.iconst X0.here hx rfl (hb hby d11_66) ?_
            exact kt)
          by_cases hcx22 : (((q1.toUInt32 >>> ((24 : Int32) &&& 31).toUInt32).toInt32) &&& (3 : Int32)) < (3 : Int32)
          · skip
            obtain ⟨fs, hr, hrun, hended, hW, hsame⟩ := X0.leave (v := (some (.int (1 : Int32)))) (fun h => by rw [Bd.returns] at h; cases h)
            refine ⟨_, _, pre21 _ ?_, hrun, hended, _, _, rfl, ?_, ⟨_, rfl⟩, hW, hsame.mono (by decide) (by decide)⟩
            · show Steps p.tables e below (s₁.setTop (mkF m 67 #[.val (.int q1), .val (.int q2), .val (.int (((q1.toUInt32 >>> ((24 : Int32) &&& 31).toUInt32).toInt32) &&& (3 : Int32)))] [(.int (3 : Int32)), (.int (((q1.toUInt32 >>> ((24 : Int32) &&& 31).toUInt32).toInt32) &&& (3 : Int32)))])) _
              refine XS.icmpYes X0.here hx rfl (pc0 := 67) (pc' := 91) rfl (hb hby d11_67) rfl (tlt hcx22).1 (by decide) (by decide) ?_
              show Steps p.tables e below (s₁.setTop (mkF m 91 #[.val (.int q1), .val (.int q2), .val (.int (((q1.toUInt32 >>> ((24 : Int32) &&& 31).toUInt32).toInt32) &&& (3 : Int32)))] [])) _
              refine XS.iconst X0.here hx rfl (hb hby d11_91) ?_
              show Steps p.tables e below (s₁.setTop (mkF m 92 #[.val (.int q1), .val (.int q2), .val (.int (((q1.toUInt32 >>> ((24 : Int32) &&& 31).toUInt32).toInt32) &&& (3 : Int32)))] [(.int (1 : Int32))])) _
              exact retN X0 hx (t := .boolean) Bd.returns (by simp) (hb hby d11_92) hr
            · show Qsame Z q1 q2 h0 n0 _ s₁.heap _
              rw [e0]
              exact ⟨N0, rfl, Or.inl ⟨rfl, (own_c3iff (own_and3 _) (own_and3 _)).mpr ⟨hcx2, Or.inr hcx18, Or.inl hcx20, Or.inl hcx22⟩⟩⟩
          · skip
            have pre23 : ∀ t, Steps p.tables e below (s₁.setTop (mkF m 86 #[.val (.int q1), .val (.int q2), .val (.int (((q1.toUInt32 >>> ((24 : Int32) &&& 31).toUInt32).toInt32) &&& (3 : Int32)))] [(.int (((q2.toUInt32 >>> ((16 : Int32) &&& 31).toUInt32).toInt32) &&& (255 : Int32))), (.int (((q1.toUInt32 >>> ((16 : Int32) &&& 31).toUInt32).toInt32) &&& (255 : Int32)))])) t → Steps p.tables e below (s₁.setTop (entryFrame m #[(.int q1), (.int q2)] 3)) t := fun t kt => pre21 t (by
              show Steps p.tables e below (s₁.setTop (mkF m 67 #[.val (.int q1), .val (.int q2), .val (.int (((q1.toUInt32 >>> ((24 : Int32) &&& 31).toUInt32).toInt32) &&& (3 : Int32)))] [(.int (3 : Int32)), (.int (((q1.toUInt32 >>> ((24 : Int32) &&& 31).toUInt32).toInt32) &&& (3 : Int32)))])) _
              refine XS.icmpNo X0.here hx rfl (hb hby d11_67) rfl (flt hcx22).1 ?_
              show Steps p.tables e below (s₁.setTop (mkF m 70 #[.val (.int q1), .val (.int q2), .val (.int (((q1.toUInt32 >>> ((24 : Int32) &&& 31).toUInt32).toInt32) &&& (3 : Int32)))] [])) _
              refine XS.iloadN X0.here hx rfl (hb hby d11_70) rfl ?_
              show Steps p.tables e below (s₁.setTop (mkF m 71 #[.val (.int q1), .val (.int q2), .val (.int (((q1.toUInt32 >>> ((24 : Int32) &&& 31).toUInt32).toInt32) &&& (3 : Int32)))] [(.int q1)])) _
              refine XS.bipush X0.here hx rfl (hb hby d11_71) ?_
              show Steps p.tables e below (s₁.setTop (mkF m 73 #[.val (.int q1), .val (.int q2), .val (.int (((q1.toUInt32 >>> ((24 : Int32) &&& 31).toUInt32).toInt32) &&& (3 : Int32)))] [(.int (16 : Int32)), (.int q1)])) _
              refine XS.iushr X0.here hx rfl (hb hby d11_73) rfl ?_
              show Steps p.tables e below (s₁.setTop (mkF m 74 #[.val (.int q1), .val (.int q2), .val (.int (((q1.toUInt32 >>> ((24 : Int32) &&& 31).toUInt32).toInt32) &&& (3 : Int32)))] [(.int ((q1.toUInt32 >>> ((16 : Int32) &&& 31).toUInt32).toInt32))])) _
              refine XS.sipush X0.here hx rfl (hb hby d11_74) ?_
              show Steps p.tables e below (s₁.setTop (mkF m 77 #[.val (.int q1), .val (.int q2), .val (.int (((q1.toUInt32 >>> ((24 : Int32) &&& 31).toUInt32).toInt32) &&& (3 : Int32)))] [(.int (255 : Int32)), (.int ((q1.toUInt32 >>> ((16 : Int32) &&& 31).toUInt32).toInt32))])) _
              refine XS.iand X0.here hx rfl (hb hby d11_77) rfl ?_
              show Steps p.tables e below (s₁.setTop (mkF m 78 #[.val (.int q1), .val (.int q2), .val (.int (((q1.toUInt32 >>> ((24 : Int32) &&& 31).toUInt32).toInt32) &&& (3 : Int32)))] [(.int (((q1.toUInt32 >>> ((16 : Int32) &&& 31).toUInt32).toInt32) &&& (255 : Int32)))])) _
              refine XS.iloadN X0.here hx rfl (hb hby d11_78) rfl ?_
              show Steps p.tables e below (s₁.setTop (mkF m 79 #[.val (.int q1), .val (.int q2), .val (.int (((q1.toUInt32 >>> ((24 : Int32) &&& 31).toUInt32).toInt32) &&& (3 : Int32)))] [(.int q2), (.int (((q1.toUInt32 >>> ((16 : Int32) &&& 31).toUInt32).toInt32) &&& (255 : Int32)))])) _
              refine XS.bipush X0.here hx rfl (hb hby d11_79) ?_
              show Steps p.tables e below (s₁.setTop (mkF m 81 #[.val (.int q1), .val (.int q2), .val (.int (((q1.toUInt32 >>> ((24 : Int32) &&& 31).toUInt32).toInt32) &&& (3 : Int32)))] [(.int (16 : Int32)), (.int q2), (.int (((q1.toUInt32 >>> ((16 : Int32) &&& 31).toUInt32).toInt32) &&& (255 : Int32)))])) _
              refine XS.iushr X0.here hx rfl (hb hby d11_81) rfl ?_
              show Steps p.tables e below (s₁.setTop (mkF m 82 #[.val (.int q1), .val (.int q2), .val (.int (((q1.toUInt32 >>> ((24 : Int32) &&& 31).toUInt32).toInt32) &&& (3 : Int32)))] [(.int ((q2.toUInt32 >>> ((16 : Int32) &&& 31).toUInt32).toInt32)), (.int (((q1.toUInt32 >>> ((16 : Int32) &&& 31).toUInt32).toInt32) &&& (255 : Int32)))])) _
              refine XS.sipush X0.here hx rfl (hb hby d11_82) ?_
              show Steps p.tables e below (s₁.setTop (mkF m 85 #[.val (.int q1), .val (.int q2), .val (.int (((q1.toUInt32 >>> ((24 : Int32) &&& 31).toUInt32).toInt32) &&& (3 : Int32)))] [(.int (255 : Int32)), (.int ((q2.toUInt32 >>> ((16 : Int32) &&& 31).toUInt32).toInt32)), (.int (((q1.toUInt32 >>> ((16 : Int32) &&& 31).toUInt32).toInt32) &&& (255 : Int32)))])) _
              refine XS.iand X0.here hx rfl (hb hby d11_85) rfl ?_
              exact kt)
            by_cases hcx24 : (((q1.toUInt32 >>> ((16 : Int32) &&& 31).toUInt32).toInt32) &&& (255 : Int32)) = (((q2.toUInt32 >>> ((16 : Int32) &&& 31).toUInt32).toInt32) &&& (255 : Int32))
            · skip
              obtain ⟨fs, hr, hrun, hended, hW, hsame⟩ := X0.leave (v := (some (.int (1 : Int32)))) (fun h => by rw [Bd.returns] at h; cases h)
              refine ⟨_, _, pre23 _ ?_, hrun, hended, _, _, rfl, ?_, ⟨_, rfl⟩, hW, hsame.mono (by decide) (by decide)⟩
              · show Steps p.tables e below (s₁.setTop (mkF m 86 #[.val (.int q1), .val (.int q2), .val (.int (((q1.toUInt32 >>> ((24 : Int32) &&& 31).toUInt32).toInt32) &&& (3 : Int32)))] [(.int (((q2.toUInt32 >>> ((16 : Int32) &&& 31).toUInt32).toInt32) &&& (255 : Int32))), (.int (((q1.toUInt32 >>> ((16 : Int32) &&& 31).toUInt32).toInt32) &&& (255 : Int32)))])) _
                refine XS.icmpYes X0.here hx rfl (pc0 := 86) (pc' := 91) rfl (hb hby d11_86) rfl (teq hcx24).1 (by decide) (by decide) ?_
                show Steps p.tables e below (s₁.setTop (mkF m 91 #[.val (.int q1), .val (.int q2), .val (.int (((q1.toUInt32 >>> ((24 : Int32) &&& 31).toUInt32).toInt32) &&& (3 : Int32)))] [])) _
                refine XS.iconst X0.here hx rfl (hb hby d11_91) ?_
                show Steps p.tables e below (s₁.setTop (mkF m 92 #[.val (.int q1), .val (.int q2), .val (.int (((q1.toUInt32 >>> ((24 : Int32) &&& 31).toUInt32).toInt32) &&& (3 : Int32)))] [(.int (1 : Int32))])) _
                exact retN X0 hx (t := .boolean) Bd.returns (by simp) (hb hby d11_92) hr
              · show Qsame Z q1 q2 h0 n0 _ s₁.heap _
                rw [e0]
                exact ⟨N0, rfl, Or.inl ⟨rfl, (own_c3iff (own_and3 _) (own_and3 _)).mpr ⟨hcx2, Or.inr hcx18, Or.inl hcx20, Or.inr hcx24⟩⟩⟩
            · skip
              obtain ⟨fs, hr, hrun, hended, hW, hsame⟩ := X0.leave (v := (some (.int (0 : Int32)))) (fun h => by rw [Bd.returns] at h; cases h)
              refine ⟨_, _, pre23 _ ?_, hrun, hended, _, _, rfl, ?_, ⟨_, rfl⟩, hW, hsame.mono (by decide) (by decide)⟩
              · show Steps p.tables e below (s₁.setTop (mkF m 86 #[.val (.int q1), .val (.int q2), .val (.int (((q1.toUInt32 >>> ((24 : Int32) &&& 31).toUInt32).toInt32) &&& (3 : Int32)))] [(.int (((q2.toUInt32 >>> ((16 : Int32) &&& 31).toUInt32).toInt32) &&& (255 : Int32))), (.int (((q1.toUInt32 >>> ((16 : Int32) &&& 31).toUInt32).toInt32) &&& (255 : Int32)))])) _
                refine XS.icmpNo X0.here hx rfl (hb hby d11_86) rfl (feq hcx24).1 ?_
                show Steps p.tables e below (s₁.setTop (mkF m 89 #[.val (.int q1), .val (.int q2), .val (.int (((q1.toUInt32 >>> ((24 : Int32) &&& 31).toUInt32).toInt32) &&& (3 : Int32)))] [])) _
                refine XS.iconst X0.here hx rfl (hb hby d11_89) ?_
                show Steps p.tables e below (s₁.setTop (mkF m 90 #[.val (.int q1), .val (.int q2), .val (.int (((q1.toUInt32 >>> ((24 : Int32) &&& 31).toUInt32).toInt32) &&& (3 : Int32)))] [(.int (0 : Int32))])) _
                exact retN X0 hx (t := .boolean) Bd.returns (by simp) (hb hby d11_90) hr
              · show Qsame Z q1 q2 h0 n0 _ s₁.heap _
                rw [e0]
                exact ⟨N0, rfl, Or.inr ⟨rfl, fun q => ((own_c3iff (own_and3 _) (own_and3 _)).mp q).2.2.2.elim hcx22 hcx24⟩⟩
        · skip
          have pre25 : ∀ t, Steps p.tables e below (s₁.setTop (mkF m 60 #[.val (.int q1), .val (.int q2), .val (.int (((q1.toUInt32 >>> ((24 : Int32) &&& 31).toUInt32).toInt32) &&& (3 : Int32)))] [(.int (((q2.toUInt32 >>> ((8 : Int32) &&& 31).toUInt32).toInt32) &&& (255 : Int32))), (.int (((q1.toUInt32 >>> ((8 : Int32) &&& 31).toUInt32).toInt32) &&& (255 : Int32)))])) t → Steps p.tables e below (s₁.setTop (entryFrame m #[(.int q1), (.int q2)] 3)) t := fun t kt => pre19 t (by
            show Steps p.tables e below (s₁.setTop (mkF m 41 #[.val (.int q1), .val (.int q2), .val (.int (((q1.toUInt32 >>> ((24 : Int32) &&& 31).toUInt32).toInt32) &&& (3 : Int32)))] [(.int (2 : Int32)), (.int (((q1.toUInt32 >>> ((24 : Int32) &&& 31).toUInt32).toInt32) &&& (3 : Int32)))])) _
            refine XS.icmpNo X0.here hx rfl (hb hby d11_41) rfl (flt hcx20).1 ?_
            show Steps p.tables e below (s₁.setTop (mkF m 44 #[.val (.int q1), .val (.int q2), .val (.int (((q1.toUInt32 >>> ((24 : Int32) &&& 31).toUInt32).toInt32) &&& (3 : Int32)))] [])) _
            refine XS.iloadN X0.here hx rfl (hb hby d11_44) rfl ?_
            show Steps p.tables e below (s₁.setTop (mkF m 45 #[.val (.int q1), .val (.int q2), .val (.int (((q1.toUInt32 >>> ((24 : Int32) &&& 31).toUInt32).toInt32) &&& (3 : Int32)))] [(.int q1)])) _
            refine XS.bipush X0.here hx rfl (hb hby d11_45) ?_
            show Steps p.tables e below (s₁.setTop (mkF m 47 #[.val (.int q1), .val (.int q2), .val (.int (((q1.toUInt32 >>> ((24 : Int32) &&& 31).toUInt32).toInt32) &&& (3 : Int32)))] [(.int (8 : Int32)), (.int q1)])) _
            refine XS.iushr X0.here hx rfl (hb hby d11_47) rfl ?_
            show Steps p.tables e below (s₁.setTop (mkF m 48 #[.val (.int q1), .val (.int q2), .val (.int (((q1.toUInt32 >>> ((24 : Int32) &&& 31).toUInt32).toInt32) &&& (3 : Int32)))] [(.int ((q1.toUInt32 >>> ((8 : Int32) &&& 31).toUInt32).toInt32))])) _
            refine XS.sipush X0.here hx rfl (hb hby d11_48) ?_
            show Steps p.tables e below (s₁.setTop (mkF m 51 #[.val (.int q1), .val (.int q2), .val (.int (((q1.toUInt32 >>> ((24 : Int32) &&& 31).toUInt32).toInt32) &&& (3 : Int32)))] [(.int (255 : Int32)), (.int ((q1.toUInt32 >>> ((8 : Int32) &&& 31).toUInt32).toInt32))])) _
            refine XS.iand X0.here hx rfl (hb hby d11_51) rfl ?_
            show Steps p.tables e below (s₁.setTop (mkF m 52 #[.val (.int q1), .val (.int q2), .val (.int (((q1.toUInt32 >>> ((24 : Int32) &&& 31).toUInt32).toInt32) &&& (3 : Int32)))] [(.int (((q1.toUInt32 >>> ((8 : Int32) &&& 31).toUInt32).toInt32) &&& (255 : Int32)))])) _
            refine XS.iloadN X0.here hx rfl (hb hby d11_52) rfl ?_
            show Steps p.tables e below (s₁.setTop (mkF m 53 #[.val (.int q1), .val (.int q2), .val (.int (((q1.toUInt32 >>> ((24 : Int32) &&& 31).toUInt32).toInt32) &&& (3 : Int32)))] [(.int q2), (.int (((q1.toUInt32 >>> ((8 : Int32) &&& 31).toUInt32).toInt32) &&& (255 : Int32)))])) _
            refine XS.bipush X0.here hx rfl (hb hby d11_53) ?_
            show Steps p.tables e below (s₁.setTop (mkF m 55 #[.val (.int q1), .val (.int q2), .val (.int (((q1.toUInt32 >>> ((24 : Int32) &&& 31).toUInt32).toInt32) &&& (3 : Int32)))] [(.int (8 : Int32)), (.int q2), (.int (((q1.toUInt32 >>> ((8 : Int32) &&& 31).toUInt32).toInt32) &&& (255 : Int32)))])) _
            refine XS.iushr X0.here hx rfl (hb hby d11_55) rfl ?_
            show Steps p.tables e below (s₁.setTop (mkF m 56 #[.val (.int q1), .val (.int q2), .val (.int (((q1.toUInt32 >>> ((24 : Int32) &&& 31).toUInt32).toInt32) &&& (3 : Int32)))] [(.int ((q2.toUInt32 >>> ((8 : Int32) &&& 31).toUInt32).toInt32)), (.int (((q1.toUInt32 >>> ((8 : Int32) &&& 31).toUInt32).toInt32) &&& (255 : Int32)))])) _
            refine XS.sipush X0.here hx rfl (hb hby d11_56) ?_
            show Steps p.tables e below (s₁.setTop (mkF m 59 #[.val (.int q1), .val (.int q2), .val (.int (((q1.toUInt32 >>> ((24 : Int32) &&& 31).toUInt32).toInt32) &&& (3 : Int32)))] [(.int (255 : Int32)), (.int ((q2.toUInt32 >>> ((8 : Int32) &&& 31).toUInt32).toInt32)), (.int (((q1.toUInt32 >>> ((8 : Int32) &&& 31).toUInt32).toInt32) &&& (255 : Int32)))])) _
            refine XS.iand X0.here hx rfl (hb hby d11_59) rfl ?_
            exact kt)
          by_cases hcx26 : (((q1.toUInt32 >>> ((8 : Int32) &&& 31).toUInt32).toInt32) &&& (255 : Int32)) = (((q2.toUInt32 >>> ((8 : Int32) &&& 31).toUInt32).toInt32) &&& (255 : Int32))
          · skip
            have pre27 : ∀ t, Steps p.tables e below (s₁.setTop (mkF m 67 #[.val (.int q1), .val (.int q2), .val (.int (((q1.toUInt32 >>> ((24 : Int32) &&& 31).toUInt32).toInt32) &&& (3 : Int32)))] [(.int (3 : Int32)), (.int (((q1.toUInt32 >>> ((24 : Int32) &&& 31).toUInt32).toInt32) &&& (3 : Int32)))])) t → Steps p.tables e below (s₁.setTop (entryFrame m #[(.int q1), (.int q2)] 3)) t := fun t kt => pre25 t (by
              show Steps p.tables e below (s₁.setTop (mkF m 60 #[.val (.int q1), .val (.int q2), .val (.int (((q1.toUInt32 >>> ((24 : Int32) &&& 31).toUInt32).toInt32) &&& (3 : Int32)))] [(.int (((q2.toUInt32 >>> ((8 : Int32) &&& 31).toUInt32).toInt32) &&& (255 : Int32))), (.int (((q1.toUInt32 >>> ((8 : Int32) &&& 31).toUInt32).toInt32) &&& (255 : Int32)))])) _
              refine XS.icmpYes X0.here hx rfl (pc0 := 60) (pc' := 65) rfl (hb hby d11_60) rfl (teq hcx26).1 (by decide) (by decide) ?_
              show Steps p.tables e below (s₁.setTop (mkF m 65 #[.val (.int q1), .val (.int q2), .val (.int (((q1.toUInt32 >>> ((24 : Int32) &&& 31).toUInt32).toInt32) &&& (3 : Int32)))] [])) _
              refine XS.iloadN X0.here hx rfl (hb hby d11_65) rfl ?_
              show Steps p.tables e below (s₁.setTop (mkF m 66 #[.val (.int q1), .val (.int q2), .val (.int (((q1.toUInt32 >>> ((24 : Int32) &&& 31).toUInt32).toInt32) &&& (3 : Int32)))] [(.int (((q1.toUInt32 >>> ((24 : Int32) &&& 31).toUInt32).toInt32) &&& (3 : Int32)))])) _
              refine XS.iconst X0.here hx rfl (hb hby d11_66) ?_
              exact kt)
            by_cases hcx28 : (((q1.toUInt32 >>> ((24 : Int32) &&& 31).toUInt32).toInt32) &&& (3 : Int32)) < (3 : Int32)
            · skip
              obtain ⟨fs, hr, hrun, hended, hW, hsame⟩ := X0.leave (v := (some (.int (1 : Int32)))) (fun h => by rw [Bd.returns] at h; cases h)
              refine ⟨_, _, pre27 _ ?_, hrun, hended, _, _, rfl, ?_, ⟨_, rfl⟩, hW, hsame.mono (by decide) (by decide)⟩
              · show Steps p.tables e below (s₁.setTop (mkF m 67 #[.val (.int q1), .val (.int q2), .val (.int (((q1.toUInt32 >>> ((24 : Int32) &&& 31).toUInt32).toInt32) &&& (3 : Int32)))] [(.int (3 : Int32)), (.int (((q1.toUInt32 >>> ((24 : Int32) &&& 31).toUInt32).toInt32) &&& (3 : Int32)))])) _
                refine XS.icmpYes X0.here hx rfl (pc0 := 67) (pc' := 91) rfl (hb hby d11_67) rfl (tlt hcx28).1 (by decide) (by decide) ?_
                show Steps p.tables e below (s₁.setTop (mkF m 91 #[.val (.int q1), .val (.int q2), .val (.int (((q1.toUInt32 >>> ((24 : Int32) &&& 31).toUInt32).toInt32) &&& (3 : Int32)))] [])) _
                refine XS.iconst X0.here hx rfl (hb hby d11_91) ?_
                show Steps p.tables e below (s₁.setTop (mkF m 92 #[.val (.int q1), .val (.int q2), .val (.int (((q1.toUInt32 >>> ((24 : Int32) &&& 31).toUInt32).toInt32) &&& (3 : Int32)))] [(.int (1 : Int32))])) _
                exact retN X0 hx (t := .boolean) Bd.returns (by simp) (hb hby d11_92) hr
              · show Qsame Z q1 q2 h0 n0 _ s₁.heap _
                rw [e0]
                exact ⟨N0, rfl, Or.inl ⟨rfl, (own_c3iff (own_and3 _) (own_and3 _)).mpr ⟨hcx2, Or.inr hcx18, Or.inr hcx26, Or.inl hcx28⟩⟩⟩
            · skip
              have pre29 : ∀ t, Steps p.tables e below (s₁.setTop (mkF m 86 #[.val (.int q1), .val (.int q2), .val (.int (((q1.toUInt32 >>> ((24 : Int32) &&& 31).toUInt32).toInt32) &&& (3 : Int32)))] [(.int (((q2.toUInt32 >>> ((16 : Int32) &&& 31).toUInt32).toInt32) &&& (255 : Int32))), (.int (((q1.toUInt32 >>> ((16 : Int32) &&& 31).toUInt32).toInt32) &&& (255 : Int32)))])) t → Steps p.tables e below (s₁.setTop (entryFrame m #[(.int q1), (.int q2)] 3)) t := fun t kt => pre27 t (by
                show Steps p.tables e below (s₁.setTop (mkF m 67 #[.val (.int q1), .val (.int q2), .val (.int (((q1.toUInt32 >>> ((24 : Int32) &&& 31).toUInt32).toInt32) &&& (3 : Int32)))] [(.int (3 : Int32)), (.int (((q1.toUInt32 >>> ((24 : Int32) &&& 31).toUInt32).toInt32) &&& (3 : Int32)))])) _
                refine XS.icmpNo X0.here hx rfl (hb hby d11_67) rfl (flt hcx28).1 ?_
                show Steps p.tables e below (s₁.setTop (mkF m 70 #[.val (.int q1), .val (.int q2), .val (.int (((q1.toUInt32 >>> ((24 : Int32) &&& 31).toUInt32).toInt32) &&& (3 : Int32)))] [])) _
                refine XS.iloadN X0.here hx rfl (hb hby d11_70) rfl ?_
                show Steps p.tables e below (s₁.setTop (mkF m 71 #[.val (.int q1), .val (.int q2), .val (.int (((q1.toUInt32 >>> ((24 : Int32) &&& 31).toUInt32).toInt32) &&& (3 : Int32)))] [(.int q1)])) _
                refine XS.bipush X0.here hx rfl (hb hby d11_71) ?_
                show Steps p.tables e below (s₁.setTop (mkF m 73 #[.val (.int q1), .val (.int q2), .val (.int (((q1.toUInt32 >>> ((24 : Int32) &&& 31).toUInt32).toInt32) &&& (3 : Int32)))] [(.int (16 : Int32)), (.int q1)])) _
                refine XS.iushr X0.here hx rfl (hb hby d11_73) rfl ?_
                show Steps p.tables e below (s₁.setTop (mkF m 74 #[.val (.int q1), .val (.int q2), .val (.int (((q1.toUInt32 >>> ((24 : Int32) &&& 31).toUInt32).toInt32) &&& (3 : Int32)))] [(.int ((q1.toUInt32 >>> ((16 : Int32) &&& 31).toUInt32).toInt32))])) _
                refine XS.sipush X0.here hx rfl (hb hby d11_74) ?_
                show Steps p.tables e below (s₁.setTop (mkF m 77 #[.val (.int q1), .val (.int q2), .val (.int (((q1.toUInt32 >>> ((24 : Int32) &&& 31).toUInt32).toInt32) &&& (3 : Int32)))] [(.int (255 : Int32)), (.int ((q1.toUInt32 >>> ((16 : Int32) &&& 31).toUInt32).toInt32))])) _
                refine XS.iand X0.here hx rfl (hb hby d11_77) rfl ?_
                show Steps p.tables e below (s₁.setTop (mkF m 78 #[.val (.int q1), .val (.int q2), .val (.int (((q1.toUInt32 >>> ((24 : Int32) &&& 31).toUInt32).toInt32) &&& (3 : Int32)))] [(.int (((q1.toUInt32 >>> ((16 : Int32) &&& 31).toUInt32).toInt32) &&& (255 : Int32)))])) _
                refine XS.iloadN X0.here hx rfl (hb hby d11_78) rfl ?_
                show Steps p.tables e below (s₁.setTop (mkF m 79 #[.val (.int q1), .val (.int q2), .val (.int (((q1.toUInt32 >>> ((24 : Int32) &&& 31).toUInt32).toInt32) &&& (3 : Int32)))] [(.int q2), (.int (((q1.toUInt32 >>> ((16 : Int32) &&& 31).toUInt32).toInt32) &&& (255 : Int32)))])) _
                refine XS.bipush X0.here hx rfl (hb hby d11_79) ?_
                show Steps p.tables e below (s₁.setTop (mkF m 81 #[.val (.int q1), .val (.int q2), .val (.int (((q1.toUInt32 >>> ((24 : Int32) &&& 31).toUInt32).toInt32) &&& (3 : Int32)))] [(.int (16 : Int32)), (.int q2), (.int (((q1.toUInt32 >>> ((16 : Int32) &&& 31).toUInt32).toInt32) &&& (255 : Int32)))])) _
                refine XS.iushr X0.here hx rfl (hb hby d11_81) rfl ?_
                show Steps p.tables e below (s₁.setTop (mkF m 82 #[.val (.int q1), .val (.int q2), .val (.int (((q1.toUInt32 >>> ((24 : Int32) &&& 31).toUInt32).toInt32) &&& (3 : Int32)))] [(.int ((q2.toUInt32 >>> ((16 : Int32) &&& 31).toUInt32).toInt32)), (.int (((q1.toUInt32 >>> ((16 : Int32) &&& 31).toUInt32).toInt32) &&& (255 : Int32)))])) _
                refine XS.sipush X0.here hx rfl (hb hby d11_82) ?_
                show Steps p.tables e below (s₁.setTop (mkF m 85 #[.val (.int q1), .val (.int q2), .val (.int (((q1.toUInt32 >>> ((24 : Int32) &&& 31).toUInt32).toInt32) &&& (3 : Int32)))] [(.int (255 : Int32)), (.int ((q2.toUInt32 >>> ((16 : Int32) &&& 31).toUInt32).toInt32)), (.int (((q1.toUInt32 >>> ((16 : Int32) &&& 31).toUInt32).toInt32) &&& (255 : Int32)))])) _
                refine XS.iand X0.here hx rfl (hb hby d11_85) rfl ?_
                exact kt)
              by_cases hcx30 : (((q1.toUInt32 >>> ((16 : Int32) &&& 31).toUInt32).toInt32) &&& (255 : Int32)) = (((q2.toUInt32 >>> ((16 : Int32) &&& 31).toUInt32).toInt32) &&& (255 : Int32))
              · skip
                obtain ⟨fs, hr, hrun, hended, hW, hsame⟩ := X0.leave (v := (some (.int (1 : Int32)))) (fun h => by rw [Bd.returns] at h; cases h)
                refine ⟨_, _, pre29 _ ?_, hrun, hended, _, _, rfl, ?_, ⟨_, rfl⟩, hW, hsame.mono (by decide) (by decide)⟩
                · show Steps p.tables e below (s₁.setTop (mkF m 86 #[.val (.int q1), .val (.int q2), .val (.int (((q1.toUInt32 >>> ((24 : Int32) &&& 31).toUInt32).toInt32) &&& (3 : Int32)))] [(.int (((q2.toUInt32 >>> ((16 : Int32) &&& 31).toUInt32).toInt32) &&& (255 : Int32))), (.int (((q1.toUInt32 >>> ((16 : Int32) &&& 31).toUInt32).toInt32) &&& (255 : Int32)))])) _
                  refine XS.icmpYes X0.here hx rfl (pc0 := 86) (pc' := 91) rfl (hb hby d11_86) rfl (teq hcx30).1 (by decide) (by decide) ?_
                  show Steps p.tables e below (s₁.setTop (mkF m 91 #[.val (.int q1), .val (.int q2), .val (.int (((q1.toUInt32 >>> ((24 : Int32) &&& 31).toUInt32).toInt32) &&& (3 : Int32)))] [])) _
                  refine XS.iconst X0.here hx rfl (hb hby d11_91) ?_
                  show Steps p.tables e below (s₁.setTop (mkF m 92 #[.val (.int q1), .val (.int q2), .val (.int (((q1.toUInt32 >>> ((24 : Int32) &&& 31).toUInt32).toInt32) &&& (3 : Int32)))] [(.int (1 : Int32))])) _
                  exact retN X0 hx (t := .boolean) Bd.returns (by simp) (hb hby d11_92) hr
                · show Qsame Z q1 q2 h0 n0 _ s₁.heap _
                  rw [e0]
                  exact ⟨N0, rfl, Or.inl ⟨rfl, (own_c3iff (own_and3 _) (own_and3 _)).mpr ⟨hcx2, Or.inr hcx18, Or.inr hcx26, Or.inr hcx30⟩⟩⟩
              · skip
                obtain ⟨fs, hr, hrun, hended, hW, hsame⟩ := X0.leave (v := (some (.int (0 : Int32)))) (fun h => by rw [Bd.returns] at h; cases h)
                refine ⟨_, _, pre29 _ ?_, hrun, hended, _, _, rfl, ?_, ⟨_, rfl⟩, hW, hsame.mono (by decide) (by decide)⟩
                · show Steps p.tables e below (s₁.setTop (mkF m 86 #[.val (.int q1), .val (.int q2), .val (.int (((q1.toUInt32 >>> ((24 : Int32) &&& 31).toUInt32).toInt32) &&& (3 : Int32)))] [(.int (((q2.toUInt32 >>> ((16 : Int32) &&& 31).toUInt32).toInt32) &&& (255 : Int32))), (.int (((q1.toUInt32 >>> ((16 : Int32) &&& 31).toUInt32).toInt32) &&& (255 : Int32)))])) _
                  refine XS.icmpNo X0.here hx rfl (hb hby d11_86) rfl (feq hcx30).1 ?_
                  show Steps p.tables e below (s₁.setTop (mkF m 89 #[.val (.int q1), .val (.int q2), .val (.int (((q1.toUInt32 >>> ((24 : Int32) &&& 31).toUInt32).toInt32) &&& (3 : Int32)))] [])) _
                  refine XS.iconst X0.here hx rfl (hb hby d11_89) ?_
                  show Steps p.tables e below (s₁.setTop (mkF m 90 #[.val (.int q1), .val (.int q2), .val (.int (((q1.toUInt32 >>> ((24 : Int32) &&& 31).toUInt32).toInt32) &&& (3 : Int32)))] [(.int (0 : Int32))])) _
                  exact retN X0 hx (t := .boolean) Bd.returns (by simp) (hb hby d11_90) hr
                · show Qsame Z q1 q2 h0 n0 _ s₁.heap _
                  rw [e0]
                  exact ⟨N0, rfl, Or.inr ⟨rfl, fun q => ((own_c3iff (own_and3 _) (own_and3 _)).mp q).2.2.2.elim hcx28 hcx30⟩⟩
          · skip
            obtain ⟨fs, hr, hrun, hended, hW, hsame⟩ := X0.leave (v := (some (.int (0 : Int32)))) (fun h => by rw [Bd.returns] at h; cases h)
            refine ⟨_, _, pre25 _ ?_, hrun, hended, _, _, rfl, ?_, ⟨_, rfl⟩, hW, hsame.mono (by decide) (by decide)⟩
            · show Steps p.tables e below (s₁.setTop (mkF m 60 #[.val (.int q1), .val (.int q2), .val (.int (((q1.toUInt32 >>> ((24 : Int32) &&& 31).toUInt32).toInt32) &&& (3 : Int32)))] [(.int (((q2.toUInt32 >>> ((8 : Int32) &&& 31).toUInt32).toInt32) &&& (255 : Int32))), (.int (((q1.toUInt32 >>> ((8 : Int32) &&& 31).toUInt32).toInt32) &&& (255 : Int32)))])) _
              refine XS.icmpNo X0.here hx rfl (hb hby d11_60) rfl (feq hcx26).1 ?_
              show Steps p.tables e below (s₁.setTop (mkF m 63 #[.val (.int q1), .val (.int q2), .val (.int (((q1.toUInt32 >>> ((24 : Int32) &&& 31).toUInt32).toInt32) &&& (3 : Int32)))] [])) _
              refine XS.iconst X0.here hx rfl (hb hby d11_63) ?_
              show Steps p.tables e below (s₁.setTop (mkF m 64 #[.val (.int q1), .val (.int q2), .val (.int (((q1.toUInt32 >>> ((24 : Int32) &&& 31).toUInt32).toInt32) &&& (3 : Int32)))] [(.int (0 : Int32))])) _
              exact retN X0 hx (t := .boolean) Bd.returns (by simp) (hb hby d11_64) hr
            · show Qsame Z q1 q2 h0 n0 _ s₁.heap _
              rw [e0]
              exact ⟨N0, rfl, Or.inr ⟨rfl, fun q => ((own_c3iff (own_and3 _) (own_and3 _)).mp q).2.2.1.elim hcx20 hcx26⟩⟩
      · skip
        obtain ⟨fs, hr, hrun, hended, hW, hsame⟩ := X0.leave (v := (some (.int (0 : Int32)))) (fun h => by rw [Bd.returns] at h; cases h)
        refine ⟨_, _, pre17 _ ?_, hrun, hended, _, _, rfl, ?_, ⟨_, rfl⟩, hW, hsame.mono (by decide) (by decide)⟩
        · show Steps p.tables e below (s₁.setTop (mkF m 34 #[.val (.int q1), .val (.int q2), .val (.int (((q1.toUInt32 >>> ((24 : Int32) &&& 31).toUInt32).toInt32) &&& (3 : Int32)))] [(.int (q2 &&& (255 : Int32))), (.int (q1 &&& (255 : Int32)))])) _
          refine XS.icmpNo X0.here hx rfl (hb hby d11_34) rfl (feq hcx18).1 ?_
          show Steps p.tables e below (s₁.setTop (mkF m 37 #[.val (.int q1), .val (.int q2), .val (.int (((q1.toUInt32 >>> ((24 : Int32) &&& 31).toUInt32).toInt32) &&& (3 : Int32)))] [])) _
          refine XS.iconst X0.here hx rfl (hb hby d11_37) ?_
          show Steps p.tables e below (s₁.setTop (mkF m 38 #[.val (.int q1), .val (.int q2), .val (.int (((q1.toUInt32 >>> ((24 : Int32) &&& 31).toUInt32).toInt32) &&& (3 : Int32)))] [(.int (0 : Int32))])) _
          exact retN X0 hx (t := .boolean) Bd.returns (by simp) (hb hby d11_38) hr
        · show Qsame Z q1 q2 h0 n0 _ s₁.heap _
          rw [e0]
          exact ⟨N0, rfl, Or.inr ⟨rfl, fun q => ((own_c3iff (own_and3 _) (own_and3 _)).mp q).2.1.elim hcx4 hcx18⟩⟩
  · skip
    obtain ⟨fs, hr, hrun, hended, hW, hsame⟩ := X0.leave (v := (some (.int (0 : Int32)))) (fun h => by rw [Bd.returns] at h; cases h)
    refine ⟨_, _, pre1 _ ?_, hrun, hended, _, _, rfl, ?_, ⟨_, rfl⟩, hW, hsame.mono (by decide) (by decide)⟩
    · show Steps p.tables e below (s₁.setTop (mkF m 14 #[.val (.int q1), .val (.int q2), .val (.int (((q1.toUInt32 >>> ((24 : Int32) &&& 31).toUInt32).toInt32) &&& (3 : Int32)))] [(.int (((q2.toUInt32 >>> ((24 : Int32) &&& 31).toUInt32).toInt32) &&& (3 : Int32))), (.int (((q1.toUInt32 >>> ((24 : Int32) &&& 31).toUInt32).toInt32) &&& (3 : Int32)))])) _
      refine XS.icmpNo X0.here hx rfl (hb hby d11_14) rfl (feq hcx2).1 ?_
      show Steps p.tables e below (s₁.setTop (mkF m 17 #[.val (.int q1), .val (.int q2), .val (.int (((q1.toUInt32 >>> ((24 : Int32) &&& 31).toUInt32).toInt32) &&& (3 : Int32)))] [])) _
      refine XS.iconst X0.here hx rfl (hb hby d11_17) ?_
      show Steps p.tables e below (s₁.setTop (mkF m 18 #[.val (.int q1), .val (.int q2), .val (.int (((q1.toUInt32 >>> ((24 : Int32) &&& 31).toUInt32).toInt32) &&& (3 : Int32)))] [(.int (0 : Int32))])) _
      exact retN X0 hx (t := .boolean) Bd.returns (by simp) (hb hby d11_18) hr
    · show Qsame Z q1 q2 h0 n0 _ s₁.heap _
      rw [e0]
      exact ⟨N0, rfl, Or.inr ⟨rfl, fun q => hcx2 ((own_c3iff (own_and3 _) (own_and3 _)).mp q).1⟩⟩
theorem own_pd_4 : parseMethodDescriptor "(I)Lcom/example/wudaokou/wudaokou/model/Behaviour;" = some ⟨[.int], some (.object "com/example/wudaokou/wudaokou/model/Behaviour")⟩ := by decide +kernel
theorem own_pd_5 : parseMethodDescriptor "(I)Ljava/lang/String;" = some ⟨[.int], some (.object "java/lang/String")⟩ := by decide +kernel
theorem own_pd_6 : parseMethodDescriptor "(Lcom/example/wudaokou/wudaokou/model/Behaviour;Ljava/lang/String;Ljava/lang/String;Ljava/lang/String;)V" = some ⟨[(.object "com/example/wudaokou/wudaokou/model/Behaviour"), (.object "java/lang/String"), (.object "java/lang/String"), (.object "java/lang/String")], none⟩ := by decide +kernel
theorem own_pd_7 : parseMethodDescriptor "(Ljava/lang/String;Ljava/lang/String;)Z" = some ⟨[(.object "java/lang/String"), (.object "java/lang/String")], some .boolean⟩ := by decide +kernel
theorem own_pd_8 : parseMethodDescriptor "(II)Z" = some ⟨[.int, .int], some .boolean⟩ := by decide +kernel
theorem ef_0 (m : MethodId) (p0 : Int32) (p1 : Int32) (p2 : Int32) (p3 : Int32) (p4 : Int32) : entryFrame m #[(.int p0), (.int p1), (.int p2), (.int p3), (.int p4)] maxLocals = mkF m 0 #[.val (.int p0), .val (.int p1), .val (.int p2), .val (.int p3), .val (.int p4), .unset, .unset, .unset, .unset, .unset, .unset, .unset] [] := by first | (simp [entryFrame, mkF, argsToLocals, Value.category, maxLocals]; done) | rfl
def Q0 (Z : State) (p0 : Int32) (p1 : Int32) (p2 : Int32) (p3 : Int32) (p4 : Int32) (G1 : Int32) (u0 : Addr) (u1 : Addr) (u2 : Addr) (u3 : Addr) (h0 : Heap) (n0 : Nat) (v : Option Value) (h : Heap) (L : List Loc) : Prop := Fr n0 L ∧ v = some (.int (1 : Int32))
set_option maxRecDepth 65536 in
set_option maxHeartbeats 40000000 in
theorem rm0 (l : Launch) (Z : State) (a0 : Array Value) (hw : ∀ d ∈ tables_1, d.before a0 Z = true) (ws : List Jvm.Cond) (p0 : Int32) (p1 : Int32) (p2 : Int32) (p3 : Int32) (p4 : Int32) (G1 : Int32) (u0 : Addr) (u1 : Addr) (u2 : Addr) (u3 : Addr) (h0 : Heap) (n0 : Nat) (Z0 : n0 ≤ h0.size) (hS : Sta Z Z.heap "java/lang/String" "COMPACT_STRINGS" "Z" (.int G1)) (hG : ¬ (G1 = (0 : Int32))) (hO : Old Z n0 h0) (hU0 : Sta Z Z.heap "com/example/wudaokou/wudaokou/model/Behaviour" "LOCATION" "Lcom/example/wudaokou/wudaokou/model/Behaviour;" (.ref u0)) (hU1 : Sta Z Z.heap "com/example/wudaokou/wudaokou/model/Behaviour" "CONTACTS" "Lcom/example/wudaokou/wudaokou/model/Behaviour;" (.ref u1)) (hU2 : Sta Z Z.heap "com/example/wudaokou/wudaokou/model/Behaviour" "CALL_LOG" "Lcom/example/wudaokou/wudaokou/model/Behaviour;" (.ref u2)) (hU3 : Sta Z Z.heap "com/example/wudaokou/wudaokou/model/Behaviour" "CONTENT" "Lcom/example/wudaokou/wudaokou/model/Behaviour;" (.ref u3)) :
    MetFree l x (head1 (Jvm.Cond.code x code maxLocals ret :: ws) room_1) (fun a U => a = #[(.int p0), (.int p1), (.int p2), (.int p3), (.int p4)] ∧ Z.Warmed39 U.vm ∧ U.heap = h0 ∧ CHv Z own_EL U.vm h0 ∧ ∀ x ∈ ([] : List Addr), Safe Z own_EL U.vm h0 x) (fun _ _ _ _ _ => True) (fun _ U o U' => ∃ v L, o = .returned v ∧ Q0 Z p0 p1 p2 p3 p4 G1 u0 u1 u2 u3 h0 n0 v U'.heap L ∧ CHr Z own_EL U.vm U.heap U'.vm U'.heap ∧ ReturnedEndW U o U' L 48 1216) := by
  refine MetFree.of_bodySF (plainFor_of_name own_pn_1) hisR ?_
  intro p e s m args below meth c s₁ Bd hml0 hP hK
  obtain ⟨rfl, hZ, hh, hCH, hQs⟩ := hP
  have hx := Bd.exec
  have hby := Bd.bytes
  have hml : c.maxLocals = 12 := hml0
  have hown : s.vm.findClass "com/example/wudaokou/wudaokou/model/SensitiveCallIsNamedByPinLaw" = some m.cls := findClass_of_methodNamed Bd.named
  have hnm := (name_of_methodNamed Bd.named Bd.method).1
  have X0 : Stand p l e room_1 (s.setVm s.vm) m #[(.int p0), (.int p1), (.int p2), (.int p3), (.int p4)] below meth c s₁ [] 0 0 := Stand.of_body Bd
  have e0 : s₁.heap = h0 := by rw [← hh, Bd.state]; rfl
  have N0 := Fr.nil n0
  have pre0 : ∀ t, Steps p.tables e below (s₁.setTop (mkF m 0 #[.val (.int p0), .val (.int p1), .val (.int p2), .val (.int p3), .val (.int p4), .unset, .unset, .unset, .unset, .unset, .unset, .unset] [])) t → Steps p.tables e below (s₁.setTop (entryFrame m #[(.int p0), (.int p1), (.int p2), (.int p3), (.int p4)] maxLocals)) t := fun t k => castTop (ef_0 m p0 p1 p2 p3 p4) k
  have hZ0 := hZ
  have hown0 := hown
  have hEL : EW Z a0 own_EL := (EW.cons (own_k hw 24 rfl) (by decide) EW.nil)
  have hwS : ∀ a ∈ Bundle.stringAtoms, a.before a0 Z = true := fun d hd => hw d ((by decide +kernel : ∀ d ∈ Bundle.stringAtoms, d ∈ tables_1) d hd)
  have hS0 : s.Since s.vm h0.size := (State.WarmedH.refl s).since _
  have Y0 : h0.size ≤ h0.size := Nat.le_refl _
  have R0 : CHr Z own_EL s.vm h0 s.vm h0 := CHr.refl hCH
  have pre1 : ∀ t, Steps p.tables e below (s₁.setTop (mkF m 4 #[.val (.int p0), .val (.int p1), .val (.int p2), .val (.int p3), .val (.int p4), .unset, .unset, .unset, .unset, .unset, .unset, .unset] [(.int (p4 &&& (1 : Int32)))])) t → Steps p.tables e below (s₁.setTop (entryFrame m #[(.int p0), (.int p1), (.int p2), (.int p3), (.int p4)] maxLocals)) t := fun t kt => pre0 t (by
    show Steps p.tables e below (s₁.setTop (mkF m 0 #[.val (.int p0), .val (.int p1), .val (.int p2), .val (.int p3), .val (.int p4), .unset, .unset, .unset, .unset, .unset, .unset, .unset] [])) _
    refine XS.iload X0.here hx rfl (hb hby at_0) rfl ?_
    show Steps p.tables e below (s₁.setTop (mkF m 2 #[.val (.int p0), .val (.int p1), .val (.int p2), .val (.int p3), .val (.int p4), .unset, .unset, .unset, .unset, .unset, .unset, .unset] [(.int p4)])) _
    refine XS.iconst X0.here hx rfl (hb hby at_2) ?_
    show Steps p.tables e below (s₁.setTop (mkF m 3 #[.val (.int p0), .val (.int p1), .val (.int p2), .val (.int p3), .val (.int p4), .unset, .unset, .unset, .unset, .unset, .unset, .unset] [(.int (1 : Int32)), (.int p4)])) _
    refine XS.iand X0.here hx rfl (hb hby at_3) rfl ?_
    exact kt)
  refine cps (A := ∃ (rb : Int32), True ∧ ∀ t, Steps p.tables e below (s₁.setTop (mkF m 14 #[.val (.int p0), .val (.int p1), .val (.int p2), .val (.int p3), .val (.int p4), .val (.int rb), .unset, .unset, .unset, .unset, .unset, .unset] [])) t → Steps p.tables e below (s₁.setTop (entryFrame m #[(.int p0), (.int p1), (.int p2), (.int p3), (.int p4)] maxLocals)) t) (fun kj2 => ?_) ?_
  · skip
    by_cases hcx3 : (p4 &&& (1 : Int32)) = (0 : Int32)
    · skip
      have pre4 : ∀ t, Steps p.tables e below (s₁.setTop (mkF m 14 #[.val (.int p0), .val (.int p1), .val (.int p2), .val (.int p3), .val (.int p4), .val (.int p2), .unset, .unset, .unset, .unset, .unset, .unset] [])) t → Steps p.tables e below (s₁.setTop (entryFrame m #[(.int p0), (.int p1), (.int p2), (.int p3), (.int p4)] maxLocals)) t := fun t kt => pre1 t (by
        show Steps p.tables e below (s₁.setTop (mkF m 4 #[.val (.int p0), .val (.int p1), .val (.int p2), .val (.int p3), .val (.int p4), .unset, .unset, .unset, .unset, .unset, .unset, .unset] [(.int (p4 &&& (1 : Int32)))])) _
        refine XS.ifYes X0.here hx rfl (pc0 := 4) (pc' := 11) rfl (hb hby at_4) rfl ((if0 _ _).trans (teq hcx3).1) (by decide) (by decide) ?_
        show Steps p.tables e below (s₁.setTop (mkF m 11 #[.val (.int p0), .val (.int p1), .val (.int p2), .val (.int p3), .val (.int p4), .unset, .unset, .unset, .unset, .unset, .unset, .unset] [])) _
        refine XS.iloadN X0.here hx rfl (hb hby at_11) rfl ?_
        show Steps p.tables e below (s₁.setTop (mkF m 12 #[.val (.int p0), .val (.int p1), .val (.int p2), .val (.int p3), .val (.int p4), .unset, .unset, .unset, .unset, .unset, .unset, .unset] [(.int p2)])) _
        refine XS.istore X0.here hx rfl (hb hby at_12) rfl (l' := #[.val (.int p0), .val (.int p1), .val (.int p2), .val (.int p3), .val (.int p4), .val (.int p2), .unset, .unset, .unset, .unset, .unset, .unset]) rfl ?_
        exact kt)
      exact kj2 ⟨p2, trivial, pre4⟩
    · skip
      have pre5 : ∀ t, Steps p.tables e below (s₁.setTop (mkF m 14 #[.val (.int p0), .val (.int p1), .val (.int p2), .val (.int p3), .val (.int p4), .val (.int p0), .unset, .unset, .unset, .unset, .unset, .unset] [])) t → Steps p.tables e below (s₁.setTop (entryFrame m #[(.int p0), (.int p1), (.int p2), (.int p3), (.int p4)] maxLocals)) t := fun t kt => pre1 t (by
        show Steps p.tables e below (s₁.setTop (mkF m 4 #[.val (.int p0), .val (.int p1), .val (.int p2), .val (.int p3), .val (.int p4), .unset, .unset, .unset, .unset, .unset, .unset, .unset] [(.int (p4 &&& (1 : Int32)))])) _
        refine XS.ifNo X0.here hx rfl (hb hby at_4) rfl ((if0 _ _).trans (feq hcx3).1) ?_
        show Steps p.tables e below (s₁.setTop (mkF m 7 #[.val (.int p0), .val (.int p1), .val (.int p2), .val (.int p3), .val (.int p4), .unset, .unset, .unset, .unset, .unset, .unset, .unset] [])) _
        refine XS.iloadN X0.here hx rfl (hb hby at_7) rfl ?_
        show Steps p.tables e below (s₁.setTop (mkF m 8 #[.val (.int p0), .val (.int p1), .val (.int p2), .val (.int p3), .val (.int p4), .unset, .unset, .unset, .unset, .unset, .unset, .unset] [(.int p0)])) _
        refine XS.goto X0.here hx rfl (pc0 := 8) (pc' := 12) rfl (hb hby at_8) (by decide) (by decide) ?_
        show Steps p.tables e below (s₁.setTop (mkF m 12 #[.val (.int p0), .val (.int p1), .val (.int p2), .val (.int p3), .val (.int p4), .unset, .unset, .unset, .unset, .unset, .unset, .unset] [(.int p0)])) _
        refine XS.istore X0.here hx rfl (hb hby at_12) rfl (l' := #[.val (.int p0), .val (.int p1), .val (.int p2), .val (.int p3), .val (.int p4), .val (.int p0), .unset, .unset, .unset, .unset, .unset, .unset]) rfl ?_
        exact kt)
      exact kj2 ⟨p0, trivial, pre5⟩
  · rintro ⟨rb, hj_rb, preJ2⟩
    have pre6 : ∀ t, Steps p.tables e below (s₁.setTop (mkF m 18 #[.val (.int p0), .val (.int p1), .val (.int p2), .val (.int p3), .val (.int p4), .val (.int rb), .unset, .unset, .unset, .unset, .unset, .unset] [(.int (p4 &&& (2 : Int32)))])) t → Steps p.tables e below (s₁.setTop (entryFrame m #[(.int p0), (.int p1), (.int p2), (.int p3), (.int p4)] maxLocals)) t := fun t kt => preJ2 t (by
      show Steps p.tables e below (s₁.setTop (mkF m 14 #[.val (.int p0), .val (.int p1), .val (.int p2), .val (.int p3), .val (.int p4), .val (.int rb), .unset, .unset, .unset, .unset, .unset, .unset] [])) _
      refine XS.iload X0.here hx rfl (hb hby at_14) rfl ?_
      show Steps p.tables e below (s₁.setTop (mkF m 16 #[.val (.int p0), .val (.int p1), .val (.int p2), .val (.int p3), .val (.int p4), .val (.int rb), .unset, .unset, .unset, .unset, .unset, .unset] [(.int p4)])) _
      refine XS.iconst X0.here hx rfl (hb hby at_16) ?_
      show Steps p.tables e below (s₁.setTop (mkF m 17 #[.val (.int p0), .val (.int p1), .val (.int p2), .val (.int p3), .val (.int p4), .val (.int rb), .unset, .unset, .unset, .unset, .unset, .unset] [(.int (2 : Int32)), (.int p4)])) _
      refine XS.iand X0.here hx rfl (hb hby at_17) rfl ?_
      exact kt)
    refine cps (A := ∃ (nb : Int32), True ∧ ∀ t, Steps p.tables e below (s₁.setTop (mkF m 28 #[.val (.int p0), .val (.int p1), .val (.int p2), .val (.int p3), .val (.int p4), .val (.int rb), .val (.int nb), .unset, .unset, .unset, .unset, .unset] [])) t → Steps p.tables e below (s₁.setTop (entryFrame m #[(.int p0), (.int p1), (.int p2), (.int p3), (.int p4)] maxLocals)) t) (fun kj7 => ?_) ?_
    · skip
      by_cases hcx8 : (p4 &&& (2 : Int32)) = (0 : Int32)
      · skip
        have pre9 : ∀ t, Steps p.tables e below (s₁.setTop (mkF m 28 #[.val (.int p0), .val (.int p1), .val (.int p2), .val (.int p3), .val (.int p4), .val (.int rb), .val (.int p3), .unset, .unset, .unset, .unset, .unset] [])) t → Steps p.tables e below (s₁.setTop (entryFrame m #[(.int p0), (.int p1), (.int p2), (.int p3), (.int p4)] maxLocals)) t := fun t kt => pre6 t (by
          show Steps p.tables e below (s₁.setTop (mkF m 18 #[.val (.int p0), .val (.int p1), .val (.int p2), .val (.int p3), .val (.int p4), .val (.int rb), .unset, .unset, .unset, .unset, .unset, .unset] [(.int (p4 &&& (2 : Int32)))])) _
          refine XS.ifYes X0.here hx rfl (pc0 := 18) (pc' := 25) rfl (hb hby at_18) rfl ((if0 _ _).trans (teq hcx8).1) (by decide) (by decide) ?_
          show Steps p.tables e below (s₁.setTop (mkF m 25 #[.val (.int p0), .val (.int p1), .val (.int p2), .val (.int p3), .val (.int p4), .val (.int rb), .unset, .unset, .unset, .unset, .unset, .unset] [])) _
          refine XS.iloadN X0.here hx rfl (hb hby at_25) rfl ?_
          show Steps p.tables e below (s₁.setTop (mkF m 26 #[.val (.int p0), .val (.int p1), .val (.int p2), .val (.int p3), .val (.int p4), .val (.int rb), .unset, .unset, .unset, .unset, .unset, .unset] [(.int p3)])) _
          refine XS.istore X0.here hx rfl (hb hby at_26) rfl (l' := #[.val (.int p0), .val (.int p1), .val (.int p2), .val (.int p3), .val (.int p4), .val (.int rb), .val (.int p3), .unset, .unset, .unset, .unset, .unset]) rfl ?_
          exact kt)
        exact kj7 ⟨p3, trivial, pre9⟩
      · skip
        have pre10 : ∀ t, Steps p.tables e below (s₁.setTop (mkF m 28 #[.val (.int p0), .val (.int p1), .val (.int p2), .val (.int p3), .val (.int p4), .val (.int rb), .val (.int p1), .unset, .unset, .unset, .unset, .unset] [])) t → Steps p.tables e below (s₁.setTop (entryFrame m #[(.int p0), (.int p1), (.int p2), (.int p3), (.int p4)] maxLocals)) t := fun t kt => pre6 t (by
          show Steps p.tables e below (s₁.setTop (mkF m 18 #[.val (.int p0), .val (.int p1), .val (.int p2), .val (.int p3), .val (.int p4), .val (.int rb), .unset, .unset, .unset, .unset, .unset, .unset] [(.int (p4 &&& (2 : Int32)))])) _
          refine XS.ifNo X0.here hx rfl (hb hby at_18) rfl ((if0 _ _).trans (feq hcx8).1) ?_
          show Steps p.tables e below (s₁.setTop (mkF m 21 #[.val (.int p0), .val (.int p1), .val (.int p2), .val (.int p3), .val (.int p4), .val (.int rb), .unset, .unset, .unset, .unset, .unset, .unset] [])) _
          refine XS.iloadN X0.here hx rfl (hb hby at_21) rfl ?_
          show Steps p.tables e below (s₁.setTop (mkF m 22 #[.val (.int p0), .val (.int p1), .val (.int p2), .val (.int p3), .val (.int p4), .val (.int rb), .unset, .unset, .unset, .unset, .unset, .unset] [(.int p1)])) _
          refine XS.goto X0.here hx rfl (pc0 := 22) (pc' := 26) rfl (hb hby at_22) (by decide) (by decide) ?_
          show Steps p.tables e below (s₁.setTop (mkF m 26 #[.val (.int p0), .val (.int p1), .val (.int p2), .val (.int p3), .val (.int p4), .val (.int rb), .unset, .unset, .unset, .unset, .unset, .unset] [(.int p1)])) _
          refine XS.istore X0.here hx rfl (hb hby at_26) rfl (l' := #[.val (.int p0), .val (.int p1), .val (.int p2), .val (.int p3), .val (.int p4), .val (.int rb), .val (.int p1), .unset, .unset, .unset, .unset, .unset]) rfl ?_
          exact kt)
        exact kj7 ⟨p1, trivial, pre10⟩
    · rintro ⟨nb, hj_nb, preJ7⟩
      obtain ⟨_, _, ⟨T11, L11, k11, n11⟩, -, X11, ⟨Lc11, hQ11, l11, y11, z11⟩, st11⟩ := Jvm.LawKit.callS X0 hx (y := (⟨"com/example/wudaokou/wudaokou/model/SensitiveCallIsNamedByPinLaw", "behaviour", "(I)Lcom/example/wudaokou/wudaokou/model/Behaviour;"⟩ : MethodName)) hown0 (mvT hZ0 (own_k hw 0 rfl)) (mvT hZ0 (own_k hw 1 rfl)) (mvT hZ0 (own_k hw 2 rfl)) (mvT hZ0 (own_k hw 3 rfl)) (by decide) (backOf (W := 0) (rmBeh l Z a0 hw [] (((p4.toUInt32 >>> ((2 : Int32) &&& 31).toUInt32).toInt32) &&& (3 : Int32)) u0 u1 u2 u3 h0 n0 Z0 hU0 hU1 hU2 hU3 hO) hZ0 (own_k hw 3 rfl) (own_k hw 2 rfl) (by decide) (by decide)) (g := (mkF m 34 #[.val (.int p0), .val (.int p1), .val (.int p2), .val (.int p3), .val (.int p4), .val (.int rb), .val (.int nb), .unset, .unset, .unset, .unset, .unset] [(.int (((p4.toUInt32 >>> ((2 : Int32) &&& 31).toUInt32).toInt32) &&& (3 : Int32)))])) rfl (by rw [hml]; rfl) (argsL := [(.int (((p4.toUInt32 >>> ((2 : Int32) &&& 31).toUInt32).toInt32) &&& (3 : Int32)))]) (rest := []) (lenOf own_pd_4 rfl) rfl (by show 2 * 0 + _ ≤ _; exact Nat.le_of_eq rfl) (hb hby at_34) (fun _ _ => ⟨rfl, e0, (by decide : 0 + 0 ≤ _), (by decide : 0 + 0 ≤ _)⟩)
      dsimp only [Pt.U, Pt.locs, Pt.cells, Pt.slots] at X11 l11 y11 z11 st11 hQ11
      subst l11 y11 z11
      obtain ⟨rr_11, Nq11, eh11, hv11⟩ := hQ11
      have N11 := Fr.app N0 Nq11
      subst hv11
      have pre12 : ∀ t, Steps p.tables e below (T11.setTop (mkF m 44 #[.val (.int p0), .val (.int p1), .val (.int p2), .val (.int p3), .val (.int p4), .val (.int rb), .val (.int nb), .val (.ref rr_11), .unset, .unset, .unset, .unset] [(.int (p4 &&& (16 : Int32)))])) t → Steps p.tables e below (s₁.setTop (entryFrame m #[(.int p0), (.int p1), (.int p2), (.int p3), (.int p4)] maxLocals)) t := fun t kt => preJ7 t (by
        show Steps p.tables e below (s₁.setTop (mkF m 28 #[.val (.int p0), .val (.int p1), .val (.int p2), .val (.int p3), .val (.int p4), .val (.int rb), .val (.int nb), .unset, .unset, .unset, .unset, .unset] [])) _
        refine XS.iload X0.here hx rfl (hb hby at_28) rfl ?_
        show Steps p.tables e below (s₁.setTop (mkF m 30 #[.val (.int p0), .val (.int p1), .val (.int p2), .val (.int p3), .val (.int p4), .val (.int rb), .val (.int nb), .unset, .unset, .unset, .unset, .unset] [(.int p4)])) _
        refine XS.iconst X0.here hx rfl (hb hby at_30) ?_
        show Steps p.tables e below (s₁.setTop (mkF m 31 #[.val (.int p0), .val (.int p1), .val (.int p2), .val (.int p3), .val (.int p4), .val (.int rb), .val (.int nb), .unset, .unset, .unset, .unset, .unset] [(.int (2 : Int32)), (.int p4)])) _
        refine XS.iushr X0.here hx rfl (hb hby at_31) rfl ?_
        show Steps p.tables e below (s₁.setTop (mkF m 32 #[.val (.int p0), .val (.int p1), .val (.int p2), .val (.int p3), .val (.int p4), .val (.int rb), .val (.int nb), .unset, .unset, .unset, .unset, .unset] [(.int ((p4.toUInt32 >>> ((2 : Int32) &&& 31).toUInt32).toInt32))])) _
        refine XS.iconst X0.here hx rfl (hb hby at_32) ?_
        show Steps p.tables e below (s₁.setTop (mkF m 33 #[.val (.int p0), .val (.int p1), .val (.int p2), .val (.int p3), .val (.int p4), .val (.int rb), .val (.int nb), .unset, .unset, .unset, .unset, .unset] [(.int (3 : Int32)), (.int ((p4.toUInt32 >>> ((2 : Int32) &&& 31).toUInt32).toInt32))])) _
        refine XS.iand X0.here hx rfl (hb hby at_33) rfl ?_
        show Steps p.tables e below (s₁.setTop (mkF m 34 #[.val (.int p0), .val (.int p1), .val (.int p2), .val (.int p3), .val (.int p4), .val (.int rb), .val (.int nb), .unset, .unset, .unset, .unset, .unset] [(.int (((p4.toUInt32 >>> ((2 : Int32) &&& 31).toUInt32).toInt32) &&& (3 : Int32)))])) _
        refine st11 _ ?_
        show Steps p.tables e below (T11.setTop (mkF m 37 #[.val (.int p0), .val (.int p1), .val (.int p2), .val (.int p3), .val (.int p4), .val (.int rb), .val (.int nb), .unset, .unset, .unset, .unset, .unset] [(.ref rr_11)])) _
        refine XS.astore X11.here hx rfl (hb hby at_37) rfl rfl (l' := #[.val (.int p0), .val (.int p1), .val (.int p2), .val (.int p3), .val (.int p4), .val (.int rb), .val (.int nb), .val (.ref rr_11), .unset, .unset, .unset, .unset]) rfl ?_
        show Steps p.tables e below (T11.setTop (mkF m 39 #[.val (.int p0), .val (.int p1), .val (.int p2), .val (.int p3), .val (.int p4), .val (.int rb), .val (.int nb), .val (.ref rr_11), .unset, .unset, .unset, .unset] [])) _
        refine XS.iload X11.here hx rfl (hb hby at_39) rfl ?_
        show Steps p.tables e below (T11.setTop (mkF m 41 #[.val (.int p0), .val (.int p1), .val (.int p2), .val (.int p3), .val (.int p4), .val (.int rb), .val (.int nb), .val (.ref rr_11), .unset, .unset, .unset, .unset] [(.int p4)])) _
        refine XS.bipush X11.here hx rfl (hb hby at_41) ?_
        show Steps p.tables e below (T11.setTop (mkF m 43 #[.val (.int p0), .val (.int p1), .val (.int p2), .val (.int p3), .val (.int p4), .val (.int rb), .val (.int nb), .val (.ref rr_11), .unset, .unset, .unset, .unset] [(.int (16 : Int32)), (.int p4)])) _
        refine XS.iand X11.here hx rfl (hb hby at_43) rfl ?_
        exact kt)
      by_cases hcx13 : (p4 &&& (16 : Int32)) = (0 : Int32)
      · skip
        obtain ⟨_, _, ⟨T14, L14, k14, n14⟩, -, X14, hSq14, hgq14, ⟨Lc14, hQ14, l14, y14, z14, hR14⟩, st14⟩ := callSS X11 hx (y := (⟨"com/example/wudaokou/wudaokou/model/SensitiveCallIsNamedByPinLaw", "str", "(I)Ljava/lang/String;"⟩ : MethodName)) hown0 (mvT hZ0 (own_k hw 7 rfl)) (mvT hZ0 (own_k hw 8 rfl)) (mvT hZ0 (own_k hw 2 rfl)) (mvT hZ0 (own_k hw 9 rfl)) (by decide) (own_backSQ (W := 0) (rmStr l Z a0 hw [] ((p4.toUInt32 >>> ((5 : Int32) &&& 31).toUInt32).toInt32) G1 h0 n0 Z0 hS (hG) hO) hZ0 (own_k hw 9 rfl) (own_k hw 2 rfl) (by decide) (by decide) hEL R0.1 sf0 all0) (g := (mkF m 55 #[.val (.int p0), .val (.int p1), .val (.int p2), .val (.int p3), .val (.int p4), .val (.int rb), .val (.int nb), .val (.ref rr_11), .unset, .unset, .unset, .unset] [(.int ((p4.toUInt32 >>> ((5 : Int32) &&& 31).toUInt32).toInt32))])) rfl (by rw [hml]; rfl) (argsL := [(.int ((p4.toUInt32 >>> ((5 : Int32) &&& 31).toUInt32).toInt32))]) (rest := []) (lenOf own_pd_5 rfl) rfl (by show 2 * 0 + _ ≤ _; exact Nat.le_of_eq rfl) (hb hby at_55) (fun _ _ => ⟨rfl, eh11, (by decide : 0 + 4 ≤ _), (by decide : 0 + 10 ≤ _)⟩)
        dsimp only [Pt.U, Pt.locs, Pt.cells, Pt.slots] at X14 l14 y14 z14 st14 hQ14 hSq14 hgq14 hR14
        subst l14 y14 z14
        obtain ⟨Xr14, hS14, hZ14, hown14⟩ := rebS hS0 (k0 := h0.size) (by rw [eh11]; exact Y0) X14 hSq14 hgq14 hZ0 hown0
        obtain ⟨bb_14, tt_14, kk_14, Nq14, Kq14, p14_0, p14_1, p14_2, p14_3, p14_4, p14_5, hv14⟩ := hQ14
        have N14 := Fr.app N11 Nq14
        have g_bb_14 : n0 ≤ bb_14 := Nat.le_trans Z0 p14_0
        have q_bb_14 : Safe Z own_EL s.vm h0 bb_14 := Safe.new p14_0
        have R15 : CHr Z own_EL s.vm h0 T14.vm T14.heap := R0.trans (hR14)
        have Y14 : T14.heap.size ≤ T14.heap.size := Nat.le_refl _
        subst hv14
        obtain ⟨T16, h16, X16, e16, E16, A16, D16, -, st16⟩ := newO Xr14 hx hZ14 hown14 (own_k hw 32 rfl) (own_k hw 33 rfl) (own_k hw 34 rfl) rfl (g := (mkF m 60 #[.val (.int p0), .val (.int p1), .val (.int p2), .val (.int p3), .val (.int p4), .val (.int rb), .val (.int nb), .val (.ref rr_11), .val (.ref bb_14), .unset, .unset, .unset] [])) rfl (hb hby at_60) (by decide) (by decide)
        obtain ⟨b16, g16⟩ : ∃ z, z = T14.heap.size := ⟨_, rfl⟩
        rw [← g16] at A16 D16 st16
        have f17 : n0 ≤ T14.heap.size := (Nat.le_trans Z0 Kq14.1)
        have g_b16 : n0 ≤ b16 := Nat.le_trans f17 (Nat.le_of_eq g16.symm)
        have q_b16 : Safe Z own_EL T14.vm T14.heap b16 := Safe.new (Nat.le_of_eq g16.symm)
        have R18 : CHr Z own_EL s.vm h0 T14.vm h16 := R15.trans (CHr.ext E16 R15.1)
        have F16_behaviour : Fld Z h16 b16 "com/example/wudaokou/wudaokou/model/SensitiveCall" "behaviour" "Lcom/example/wudaokou/wudaokou/model/Behaviour;" .null := D16 (Or.inr (own_k hw 45 rfl)) (ty := (.object "com/example/wudaokou/wudaokou/model/Behaviour")) (by decide)
        have F16_declaringType : Fld Z h16 b16 "com/example/wudaokou/wudaokou/model/SensitiveCall" "declaringType" "Ljava/lang/String;" .null := D16 (Or.inr (own_k hw 47 rfl)) (ty := (.object "java/lang/String")) (by decide)
        have F16_methodName : Fld Z h16 b16 "com/example/wudaokou/wudaokou/model/SensitiveCall" "methodName" "Ljava/lang/String;" .null := D16 (Or.inr (own_k hw 49 rfl)) (ty := (.object "java/lang/String")) (by decide)
        have F16_guard : Fld Z h16 b16 "com/example/wudaokou/wudaokou/model/SensitiveCall" "guard" "Ljava/lang/String;" .null := D16 (Or.inr (own_k hw 51 rfl)) (ty := (.object "java/lang/String")) (by decide)
        have f20 : Old Z n0 h16 := ((hO.keep Kq14 all0).ext E16)
        have f21 : n0 ≤ h16.size := (Nat.le_trans f17 E16.1)
        obtain ⟨_, _, ⟨T19, L19, k19, n19⟩, -, X19, hSq19, hgq19, ⟨Lc19, hQ19, l19, y19, z19, hR19⟩, st19⟩ := callSS X16 hx (y := (⟨"com/example/wudaokou/wudaokou/model/SensitiveCallIsNamedByPinLaw", "str", "(I)Ljava/lang/String;"⟩ : MethodName)) hown14 (mvT hZ14 (own_k hw 7 rfl)) (mvT hZ14 (own_k hw 8 rfl)) (mvT hZ14 (own_k hw 2 rfl)) (mvT hZ14 (own_k hw 9 rfl)) (by decide) (own_backSQ (W := 3) (rmStr l Z a0 hw [] p0 G1 h16 n0 f21 hS (hG) f20) hZ14 (own_k hw 9 rfl) (own_k hw 2 rfl) (by decide) (by decide) hEL R18.1 sf0 all0) (g := (mkF m 67 #[.val (.int p0), .val (.int p1), .val (.int p2), .val (.int p3), .val (.int p4), .val (.int rb), .val (.int nb), .val (.ref rr_11), .val (.ref bb_14), .unset, .unset, .unset] [(.int p0), (.ref rr_11), (.ref b16), (.ref b16)])) rfl (by rw [hml]; rfl) (argsL := [(.int p0)]) (rest := [(.ref rr_11), (.ref b16), (.ref b16)]) (lenOf own_pd_5 rfl) rfl (by show 2 * 0 + _ ≤ _; exact Nat.le_of_eq rfl) (hb hby at_67) (fun _ _ => ⟨rfl, e16, (by decide : 5 + 4 ≤ _), (by decide : 14 + 10 ≤ _)⟩)
        dsimp only [Pt.U, Pt.locs, Pt.cells, Pt.slots] at X19 l19 y19 z19 st19 hQ19 hSq19 hgq19 hR19
        subst l19 y19 z19
        have f22 : T14.heap.size ≤ h16.size := (Nat.le_trans Y14 E16.1)
        obtain ⟨Xr19, hS19, hZ19, hown19⟩ := rebS hS14 (k0 := T14.heap.size) (by rw [e16]; exact f22) X19 hSq19 hgq19 hZ14 hown14
        obtain ⟨bb_19, tt_19, kk_19, Nq19, Kq19, p19_0, p19_1, p19_2, p19_3, p19_4, p19_5, hv19⟩ := hQ19
        have N19 := Fr.app N14 Nq19
        have g_bb_19 : n0 ≤ bb_19 := Nat.le_trans f21 p19_0
        have q_bb_19 : Safe Z own_EL T14.vm h16 bb_19 := Safe.new p19_0
        have R23 : CHr Z own_EL s.vm h0 T19.vm T19.heap := R18.trans (hR19)
        have Y19 : T19.heap.size ≤ T19.heap.size := Nat.le_refl _
        subst hv19
        have f25 : Old Z n0 T19.heap := (f20.keep Kq19 all0)
        have f26 : n0 ≤ T19.heap.size := (Nat.le_trans f21 Kq19.1)
        obtain ⟨_, _, ⟨T24, L24, k24, n24⟩, -, X24, hSq24, hgq24, ⟨Lc24, hQ24, l24, y24, z24, hR24⟩, st24⟩ := callSS Xr19 hx (y := (⟨"com/example/wudaokou/wudaokou/model/SensitiveCallIsNamedByPinLaw", "str", "(I)Ljava/lang/String;"⟩ : MethodName)) hown19 (mvT hZ19 (own_k hw 7 rfl)) (mvT hZ19 (own_k hw 8 rfl)) (mvT hZ19 (own_k hw 2 rfl)) (mvT hZ19 (own_k hw 9 rfl)) (by decide) (own_backSQ (W := 4) (rmStr l Z a0 hw [] p1 G1 T19.heap n0 f26 hS (hG) f25) hZ19 (own_k hw 9 rfl) (own_k hw 2 rfl) (by decide) (by decide) hEL R23.1 sf0 all0) (g := (mkF m 71 #[.val (.int p0), .val (.int p1), .val (.int p2), .val (.int p3), .val (.int p4), .val (.int rb), .val (.int nb), .val (.ref rr_11), .val (.ref bb_14), .unset, .unset, .unset] [(.int p1), (.ref bb_19), (.ref rr_11), (.ref b16), (.ref b16)])) rfl (by rw [hml]; rfl) (argsL := [(.int p1)]) (rest := [(.ref bb_19), (.ref rr_11), (.ref b16), (.ref b16)]) (lenOf own_pd_5 rfl) rfl (by show 2 * 0 + _ ≤ _; exact Nat.le_of_eq rfl) (hb hby at_71) (fun _ _ => ⟨rfl, rfl, (by decide : 9 + 4 ≤ _), (by decide : 24 + 10 ≤ _)⟩)
        dsimp only [Pt.U, Pt.locs, Pt.cells, Pt.slots] at X24 l24 y24 z24 st24 hQ24 hSq24 hgq24 hR24
        subst l24 y24 z24
        obtain ⟨Xr24, hS24, hZ24, hown24⟩ := rebS hS19 (k0 := T19.heap.size) Y19 X24 hSq24 hgq24 hZ19 hown19
        obtain ⟨bb_24, tt_24, kk_24, Nq24, Kq24, p24_0, p24_1, p24_2, p24_3, p24_4, p24_5, hv24⟩ := hQ24
        have N24 := Fr.app N19 Nq24
        have g_bb_24 : n0 ≤ bb_24 := Nat.le_trans f26 p24_0
        have q_bb_24 : Safe Z own_EL T19.vm T19.heap bb_24 := Safe.new p24_0
        have R27 : CHr Z own_EL s.vm h0 T24.vm T24.heap := R23.trans (hR24)
        have Y24 : T24.heap.size ≤ T24.heap.size := Nat.le_refl _
        subst hv24
        have f29 : Exa Z T24.heap b16 "com/example/wudaokou/wudaokou/model/SensitiveCall" := ((A16.keep Kq19).keep Kq24)
        have f30 : Fld Z T24.heap b16 "com/example/wudaokou/wudaokou/model/SensitiveCall" "behaviour" "Lcom/example/wudaokou/wudaokou/model/Behaviour;" .null := ((F16_behaviour.keep Kq19 nin0).keep Kq24 nin0)
        have f31 : Fld Z T24.heap b16 "com/example/wudaokou/wudaokou/model/SensitiveCall" "declaringType" "Ljava/lang/String;" .null := ((F16_declaringType.keep Kq19 nin0).keep Kq24 nin0)
        have f32 : Fld Z T24.heap b16 "com/example/wudaokou/wudaokou/model/SensitiveCall" "methodName" "Ljava/lang/String;" .null := ((F16_methodName.keep Kq19 nin0).keep Kq24 nin0)
        have f33 : Fld Z T24.heap b16 "com/example/wudaokou/wudaokou/model/SensitiveCall" "guard" "Ljava/lang/String;" .null := ((F16_guard.keep Kq19 nin0).keep Kq24 nin0)
        have f34 : n0 ≤ T24.heap.size := (Nat.le_trans f26 Kq24.1)
        obtain ⟨_, _, ⟨T28, L28, k28, n28⟩, -, X28, ⟨Lc28, hQ28, l28, y28, z28⟩, st28⟩ := Xr24.specialBack hx (y := (⟨"com/example/wudaokou/wudaokou/model/SensitiveCall", "<init>", "(Lcom/example/wudaokou/wudaokou/model/Behaviour;Ljava/lang/String;Ljava/lang/String;Ljava/lang/String;)V"⟩ : MethodName)) rfl hown24 (mvT hZ24 (own_k hw 35 rfl)) (mvT hZ24 (own_k hw 36 rfl)) (mvT hZ24 (own_k hw 37 rfl)) (by decide) (backOf (W := 1) (rmInit0 l Z a0 hw [] b16 rr_11 bb_19 bb_24 bb_14 T24.heap n0 f34 f29 f30 f31 f32 f33 g_b16) hZ24 (own_k hw 37 rfl) (own_k hw 34 rfl) (by decide) (by decide)) (g := (mkF m 76 #[.val (.int p0), .val (.int p1), .val (.int p2), .val (.int p3), .val (.int p4), .val (.int rb), .val (.int nb), .val (.ref rr_11), .val (.ref bb_14), .unset, .unset, .unset] [(.ref bb_14), (.ref bb_24), (.ref bb_19), (.ref rr_11), (.ref b16), (.ref b16)])) rfl (by rw [hml]; rfl) (Steps.refl _) (a := b16) (argsL := [(.ref rr_11), (.ref bb_19), (.ref bb_24), (.ref bb_14)]) (rest := [(.ref b16)]) (lenOf own_pd_6 rfl) rfl (by show 2 * 0 + _ ≤ _; exact Nat.le_of_eq rfl) (hb hby at_76) (fun _ _ => ⟨rfl, rfl, (by decide : 13 + 0 ≤ _), (by decide : 34 + 0 ≤ _)⟩)
        dsimp only [Pt.U, Pt.locs, Pt.cells, Pt.slots] at X28 l28 y28 z28 st28 hQ28
        subst l28 y28 z28
        obtain ⟨Nq28, Kq28, p28_0, p28_1, p28_2, hv28⟩ := hQ28
        have N28 := Fr.app N24 Nq28
        have R35 : CHr Z own_EL s.vm h0 T24.vm T28.heap := R27.trans (CHr.keep Kq28 (sfS (Safe.exa hZ24.alike f29 (by decide) (by decide)) sf0) R27.1)
        subst hv28
        have f37 : Old Z n0 T28.heap := ((f25.keep Kq24 all0).keep Kq28 (allS g_b16 all0))
        have f38 : n0 ≤ T28.heap.size := (Nat.le_trans f34 Kq28.1)
        obtain ⟨_, _, ⟨T36, L36, k36, n36⟩, -, X36, hSq36, hgq36, ⟨Lc36, hQ36, l36, y36, z36, hR36⟩, st36⟩ := callSS X28 hx (y := (⟨"com/example/wudaokou/wudaokou/model/SensitiveCallIsNamedByPinLaw", "str", "(I)Ljava/lang/String;"⟩ : MethodName)) hown24 (mvT hZ24 (own_k hw 7 rfl)) (mvT hZ24 (own_k hw 8 rfl)) (mvT hZ24 (own_k hw 2 rfl)) (mvT hZ24 (own_k hw 9 rfl)) (by decide) (own_backSQ (W := 1) (rmStr l Z a0 hw [] rb G1 T28.heap n0 f38 hS (hG) f37) hZ24 (own_k hw 9 rfl) (own_k hw 2 rfl) (by decide) (by decide) hEL R35.1 sf0 all0) (g := (mkF m 85 #[.val (.int p0), .val (.int p1), .val (.int p2), .val (.int p3), .val (.int p4), .val (.int rb), .val (.int nb), .val (.ref rr_11), .val (.ref bb_14), .val (.ref b16), .unset, .unset] [(.int rb), (.ref b16)])) rfl (by rw [hml]; rfl) (argsL := [(.int rb)]) (rest := [(.ref b16)]) (lenOf own_pd_5 rfl) rfl (by show 2 * 0 + _ ≤ _; exact Nat.le_of_eq rfl) (hb hby at_85) (fun _ _ => ⟨rfl, rfl, (by decide : 13 + 4 ≤ _), (by decide : 34 + 10 ≤ _)⟩)
        dsimp only [Pt.U, Pt.locs, Pt.cells, Pt.slots] at X36 l36 y36 z36 st36 hQ36 hSq36 hgq36 hR36
        subst l36 y36 z36
        have f39 : T24.heap.size ≤ T28.heap.size := (Nat.le_trans Y24 Kq28.1)
        obtain ⟨Xr36, hS36, hZ36, hown36⟩ := rebS hS24 (k0 := T24.heap.size) f39 X36 hSq36 hgq36 hZ24 hown24
        obtain ⟨bb_36, tt_36, kk_36, Nq36, Kq36, p36_0, p36_1, p36_2, p36_3, p36_4, p36_5, hv36⟩ := hQ36
        have N36 := Fr.app N28 Nq36
        have g_bb_36 : n0 ≤ bb_36 := Nat.le_trans f38 p36_0
        have q_bb_36 : Safe Z own_EL T24.vm T28.heap bb_36 := Safe.new p36_0
        have R40 : CHr Z own_EL s.vm h0 T36.vm T36.heap := R35.trans (hR36)
        have Y36 : T36.heap.size ≤ T36.heap.size := Nat.le_refl _
        subst hv36
        have f42 : Old Z n0 T36.heap := (f37.keep Kq36 all0)
        have f43 : n0 ≤ T36.heap.size := (Nat.le_trans f38 Kq36.1)
        obtain ⟨_, _, ⟨T41, L41, k41, n41⟩, -, X41, hSq41, hgq41, ⟨Lc41, hQ41, l41, y41, z41, hR41⟩, st41⟩ := callSS Xr36 hx (y := (⟨"com/example/wudaokou/wudaokou/model/SensitiveCallIsNamedByPinLaw", "str", "(I)Ljava/lang/String;"⟩ : MethodName)) hown36 (mvT hZ36 (own_k hw 7 rfl)) (mvT hZ36 (own_k hw 8 rfl)) (mvT hZ36 (own_k hw 2 rfl)) (mvT hZ36 (own_k hw 9 rfl)) (by decide) (own_backSQ (W := 2) (rmStr l Z a0 hw [] nb G1 T36.heap n0 f43 hS (hG) f42) hZ36 (own_k hw 9 rfl) (own_k hw 2 rfl) (by decide) (by decide) hEL R40.1 sf0 all0) (g := (mkF m 90 #[.val (.int p0), .val (.int p1), .val (.int p2), .val (.int p3), .val (.int p4), .val (.int rb), .val (.int nb), .val (.ref rr_11), .val (.ref bb_14), .val (.ref b16), .unset, .unset] [(.int nb), (.ref bb_36), (.ref b16)])) rfl (by rw [hml]; rfl) (argsL := [(.int nb)]) (rest := [(.ref bb_36), (.ref b16)]) (lenOf own_pd_5 rfl) rfl (by show 2 * 0 + _ ≤ _; exact Nat.le_of_eq rfl) (hb hby at_90) (fun _ _ => ⟨rfl, rfl, (by decide : 17 + 4 ≤ _), (by decide : 44 + 10 ≤ _)⟩)
        dsimp only [Pt.U, Pt.locs, Pt.cells, Pt.slots] at X41 l41 y41 z41 st41 hQ41 hSq41 hgq41 hR41
        subst l41 y41 z41
        obtain ⟨Xr41, hS41, hZ41, hown41⟩ := rebS hS36 (k0 := T36.heap.size) Y36 X41 hSq41 hgq41 hZ36 hown36
        obtain ⟨bb_41, tt_41, kk_41, Nq41, Kq41, p41_0, p41_1, p41_2, p41_3, p41_4, p41_5, hv41⟩ := hQ41
        have N41 := Fr.app N36 Nq41
        have g_bb_41 : n0 ≤ bb_41 := Nat.le_trans f43 p41_0
        have q_bb_41 : Safe Z own_EL T36.vm T36.heap bb_41 := Safe.new p41_0
        have R44 : CHr Z own_EL s.vm h0 T41.vm T41.heap := R40.trans (hR41)
        have Y41 : T41.heap.size ≤ T41.heap.size := Nat.le_refl _
        subst hv41
        have f46 : Old Z n0 T41.heap := (f42.keep Kq41 all0)
        have f47 : Fld Z T41.heap b16 "com/example/wudaokou/wudaokou/model/SensitiveCall" "declaringType" "Ljava/lang/String;" (.ref bb_19) := ((p28_1.keep Kq36 nin0).keep Kq41 nin0)
        have f48 : Fld Z T41.heap b16 "com/example/wudaokou/wudaokou/model/SensitiveCall" "methodName" "Ljava/lang/String;" (.ref bb_24) := ((p28_2.keep Kq36 nin0).keep Kq41 nin0)
        have f49 : Exa Z T41.heap bb_19 "java/lang/String" := ((((p19_1.keep Kq24).keep Kq28).keep Kq36).keep Kq41)
        have f50 : Fld Z T41.heap bb_19 "java/lang/String" "value" "[B" (.ref tt_19) := ((((p19_3.keep Kq24 nin0).keep Kq28 (ninS (Ne.symm (Nat.ne_of_lt (Nat.lt_of_lt_of_le A16.lt p19_0))) nin0)).keep Kq36 nin0).keep Kq41 nin0)
        have f51 : Fld Z T41.heap bb_19 "java/lang/String" "coder" "B" (.int (0 : Int32)) := ((((p19_2.keep Kq24 nin0).keep Kq28 (ninS (Ne.symm (Nat.ne_of_lt (Nat.lt_of_lt_of_le A16.lt p19_0))) nin0)).keep Kq36 nin0).keep Kq41 nin0)
        have f52 : Arv Z T41.heap tt_19 kk_19 .byte (Int32.ofNat (own_st p0).length) (((own_st p0).map (fun c => c.toInt8.toInt32)).map Value.int) (.int (0 : Int32)) := ((((p19_4.keep Kq24 nin0).keep Kq28 (ninS (Ne.symm (Exa.neArv (A16.keep Kq19) p19_4 (own_k hw 33 rfl))) nin0)).keep Kq36 nin0).keep Kq41 nin0)
        have f53 : Exa Z T41.heap bb_24 "java/lang/String" := (((p24_1.keep Kq28).keep Kq36).keep Kq41)
        have f54 : Fld Z T41.heap bb_24 "java/lang/String" "value" "[B" (.ref tt_24) := (((p24_3.keep Kq28 (ninS (Ne.symm (Nat.ne_of_lt (Nat.lt_of_lt_of_le (A16.keep Kq19).lt p24_0))) nin0)).keep Kq36 nin0).keep Kq41 nin0)
        have f55 : Fld Z T41.heap bb_24 "java/lang/String" "coder" "B" (.int (0 : Int32)) := (((p24_2.keep Kq28 (ninS (Ne.symm (Nat.ne_of_lt (Nat.lt_of_lt_of_le (A16.keep Kq19).lt p24_0))) nin0)).keep Kq36 nin0).keep Kq41 nin0)
        have f56 : Arv Z T41.heap tt_24 kk_24 .byte (Int32.ofNat (own_st p1).length) (((own_st p1).map (fun c => c.toInt8.toInt32)).map Value.int) (.int (0 : Int32)) := (((p24_4.keep Kq28 (ninS (Ne.symm (Exa.neArv f29 p24_4 (own_k hw 33 rfl))) nin0)).keep Kq36 nin0).keep Kq41 nin0)
        have f57 : Exa Z T41.heap bb_36 "java/lang/String" := (p36_1.keep Kq41)
        have f58 : Fld Z T41.heap bb_36 "java/lang/String" "value" "[B" (.ref tt_36) := (p36_3.keep Kq41 nin0)
        have f59 : Fld Z T41.heap bb_36 "java/lang/String" "coder" "B" (.int (0 : Int32)) := (p36_2.keep Kq41 nin0)
        have f60 : Arv Z T41.heap tt_36 kk_36 .byte (Int32.ofNat (own_st rb).length) (((own_st rb).map (fun c => c.toInt8.toInt32)).map Value.int) (.int (0 : Int32)) := (p36_4.keep Kq41 nin0)
        have f61 : n0 ≤ T41.heap.size := (Nat.le_trans f43 Kq41.1)
        have f62 : Exa Z T41.heap b16 "com/example/wudaokou/wudaokou/model/SensitiveCall" := ((p28_0.keep Kq36).keep Kq41)
        obtain ⟨cq45, kq45, q45a, q45b, q45c⟩ := isOf hZ41 rfl f62
        obtain ⟨_, _, ⟨T45, L45, k45, n45⟩, -, X45, ⟨Lc45, hQ45, l45, y45, z45⟩, st45⟩ := Xr41.virtualBack hx (y := (⟨"com/example/wudaokou/wudaokou/model/SensitiveCall", "isNamedBy", "(Ljava/lang/String;Ljava/lang/String;)Z"⟩ : MethodName)) (z := (⟨"com/example/wudaokou/wudaokou/model/SensitiveCall", "isNamedBy", "(Ljava/lang/String;Ljava/lang/String;)Z"⟩ : MethodName)) hown41 (mvT hZ41 (own_k hw 52 rfl)) (mvT hZ41 (own_k hw 53 rfl)) (notFace_of_selects (args := #[]) (mvT hZ41 (own_k hw 55 rfl))) (mvT hZ41 (own_k hw 55 rfl)) (mvT hZ41 (own_k hw 54 rfl)) (by decide) (backOf (W := 0) (rmNb l Z a0 hw [] b16 bb_36 bb_41 bb_19 bb_24 G1 tt_19 kk_19 (Int32.ofNat (own_st p0).length) (((own_st p0).map (fun c => c.toInt8.toInt32)).map Value.int) (own_st p0) tt_24 kk_24 (Int32.ofNat (own_st p1).length) (((own_st p1).map (fun c => c.toInt8.toInt32)).map Value.int) (own_st p1) tt_36 kk_36 (Int32.ofNat (own_st rb).length) (((own_st rb).map (fun c => c.toInt8.toInt32)).map Value.int) (own_st rb) tt_41 kk_41 (Int32.ofNat (own_st nb).length) (((own_st nb).map (fun c => c.toInt8.toInt32)).map Value.int) (own_st nb) T41.heap n0 f61 hS (hG) f46 f47 f48 f49 f50 f51 f52 ((own_stA p0)) ((own_stC p0)) ((own_stL p0)) f53 f54 f55 f56 ((own_stA p1)) ((own_stC p1)) ((own_stL p1)) f57 f58 f59 f60 ((own_stA rb)) ((own_stC rb)) ((own_stL rb)) p41_1 p41_3 p41_2 p41_4 ((own_stA nb)) ((own_stC nb)) ((own_stL nb))) hZ41 (own_k hw 56 rfl) (own_k hw 34 rfl) (by decide) (by decide)) q45a q45c (g := (mkF m 93 #[.val (.int p0), .val (.int p1), .val (.int p2), .val (.int p3), .val (.int p4), .val (.int rb), .val (.int nb), .val (.ref rr_11), .val (.ref bb_14), .val (.ref b16), .unset, .unset] [(.ref bb_41), (.ref bb_36), (.ref b16)])) rfl (by rw [hml]; rfl) (Steps.refl _) (argsL := [(.ref bb_36), (.ref bb_41)]) (rest := []) (lenOf own_pd_7 rfl) rfl (by show 2 * 0 + _ ≤ _; exact Nat.le_of_eq rfl) (hb hby at_93) (fun _ _ => ⟨rfl, rfl, (by decide : 21 + 0 ≤ _), (by decide : 54 + 0 ≤ _)⟩)
        dsimp only [Pt.U, Pt.locs, Pt.cells, Pt.slots] at X45 l45 y45 z45 st45 hQ45
        subst l45 y45 z45
        obtain ⟨Nq45, eh45, hv45⟩ := hQ45
        have N45 := Fr.app N41 Nq45
        have pre63 : ∀ t, Steps p.tables e below (T41.setTop (mkF m 93 #[.val (.int p0), .val (.int p1), .val (.int p2), .val (.int p3), .val (.int p4), .val (.int rb), .val (.int nb), .val (.ref rr_11), .val (.ref bb_14), .val (.ref b16), .unset, .unset] [(.ref bb_41), (.ref bb_36), (.ref b16)])) t → Steps p.tables e below (s₁.setTop (entryFrame m #[(.int p0), (.int p1), (.int p2), (.int p3), (.int p4)] maxLocals)) t := fun t kt => pre12 t (by
          show Steps p.tables e below (T11.setTop (mkF m 44 #[.val (.int p0), .val (.int p1), .val (.int p2), .val (.int p3), .val (.int p4), .val (.int rb), .val (.int nb), .val (.ref rr_11), .unset, .unset, .unset, .unset] [(.int (p4 &&& (16 : Int32)))])) _
          refine XS.ifYes X11.here hx rfl (pc0 := 44) (pc' := 51) rfl (hb hby at_44) rfl ((if0 _ _).trans (teq hcx13).1) (by decide) (by decide) ?_
          show Steps p.tables e below (T11.setTop (mkF m 51 #[.val (.int p0), .val (.int p1), .val (.int p2), .val (.int p3), .val (.int p4), .val (.int rb), .val (.int nb), .val (.ref rr_11), .unset, .unset, .unset, .unset] [])) _
          refine XS.iload X11.here hx rfl (hb hby at_51) rfl ?_
          show Steps p.tables e below (T11.setTop (mkF m 53 #[.val (.int p0), .val (.int p1), .val (.int p2), .val (.int p3), .val (.int p4), .val (.int rb), .val (.int nb), .val (.ref rr_11), .unset, .unset, .unset, .unset] [(.int p4)])) _
          refine XS.iconst X11.here hx rfl (hb hby at_53) ?_
          show Steps p.tables e below (T11.setTop (mkF m 54 #[.val (.int p0), .val (.int p1), .val (.int p2), .val (.int p3), .val (.int p4), .val (.int rb), .val (.int nb), .val (.ref rr_11), .unset, .unset, .unset, .unset] [(.int (5 : Int32)), (.int p4)])) _
          refine XS.iushr X11.here hx rfl (hb hby at_54) rfl ?_
          show Steps p.tables e below (T11.setTop (mkF m 55 #[.val (.int p0), .val (.int p1), .val (.int p2), .val (.int p3), .val (.int p4), .val (.int rb), .val (.int nb), .val (.ref rr_11), .unset, .unset, .unset, .unset] [(.int ((p4.toUInt32 >>> ((5 : Int32) &&& 31).toUInt32).toInt32))])) _
          refine st14.trans ?_
          show Steps p.tables e below (T14.setTop (mkF m 58 #[.val (.int p0), .val (.int p1), .val (.int p2), .val (.int p3), .val (.int p4), .val (.int rb), .val (.int nb), .val (.ref rr_11), .unset, .unset, .unset, .unset] [(.ref bb_14)])) _
          refine XS.astore Xr14.here hx rfl (hb hby at_58) rfl rfl (l' := #[.val (.int p0), .val (.int p1), .val (.int p2), .val (.int p3), .val (.int p4), .val (.int rb), .val (.int nb), .val (.ref rr_11), .val (.ref bb_14), .unset, .unset, .unset]) rfl ?_
          show Steps p.tables e below (T14.setTop (mkF m 60 #[.val (.int p0), .val (.int p1), .val (.int p2), .val (.int p3), .val (.int p4), .val (.int rb), .val (.int nb), .val (.ref rr_11), .val (.ref bb_14), .unset, .unset, .unset] [])) _
          refine st16 _ ?_
          show Steps p.tables e below (T16.setTop (mkF m 63 #[.val (.int p0), .val (.int p1), .val (.int p2), .val (.int p3), .val (.int p4), .val (.int rb), .val (.int nb), .val (.ref rr_11), .val (.ref bb_14), .unset, .unset, .unset] [(.ref b16)])) _
          refine XS.dup X16.here hx rfl (hb hby at_63) rfl rfl ?_
          show Steps p.tables e below (T16.setTop (mkF m 64 #[.val (.int p0), .val (.int p1), .val (.int p2), .val (.int p3), .val (.int p4), .val (.int rb), .val (.int nb), .val (.ref rr_11), .val (.ref bb_14), .unset, .unset, .unset] [(.ref b16), (.ref b16)])) _
          refine XS.aload X16.here hx rfl (hb hby at_64) rfl rfl ?_
          show Steps p.tables e below (T16.setTop (mkF m 66 #[.val (.int p0), .val (.int p1), .val (.int p2), .val (.int p3), .val (.int p4), .val (.int rb), .val (.int nb), .val (.ref rr_11), .val (.ref bb_14), .unset, .unset, .unset] [(.ref rr_11), (.ref b16), (.ref b16)])) _
          refine XS.iloadN X16.here hx rfl (hb hby at_66) rfl ?_
          show Steps p.tables e below (T16.setTop (mkF m 67 #[.val (.int p0), .val (.int p1), .val (.int p2), .val (.int p3), .val (.int p4), .val (.int rb), .val (.int nb), .val (.ref rr_11), .val (.ref bb_14), .unset, .unset, .unset] [(.int p0), (.ref rr_11), (.ref b16), (.ref b16)])) _
          refine st19.trans ?_
          show Steps p.tables e below (T19.setTop (mkF m 70 #[.val (.int p0), .val (.int p1), .val (.int p2), .val (.int p3), .val (.int p4), .val (.int rb), .val (.int nb), .val (.ref rr_11), .val (.ref bb_14), .unset, .unset, .unset] [(.ref bb_19), (.ref rr_11), (.ref b16), (.ref b16)])) _
          refine XS.iloadN Xr19.here hx rfl (hb hby at_70) rfl ?_
          show Steps p.tables e below (T19.setTop (mkF m 71 #[.val (.int p0), .val (.int p1), .val (.int p2), .val (.int p3), .val (.int p4), .val (.int rb), .val (.int nb), .val (.ref rr_11), .val (.ref bb_14), .unset, .unset, .unset] [(.int p1), (.ref bb_19), (.ref rr_11), (.ref b16), (.ref b16)])) _
          refine st24.trans ?_
          show Steps p.tables e below (T24.setTop (mkF m 74 #[.val (.int p0), .val (.int p1), .val (.int p2), .val (.int p3), .val (.int p4), .val (.int rb), .val (.int nb), .val (.ref rr_11), .val (.ref bb_14), .unset, .unset, .unset] [(.ref bb_24), (.ref bb_19), (.ref rr_11), (.ref b16), (.ref b16)])) _
          refine XS.aload Xr24.here hx rfl (hb hby at_74) rfl rfl ?_
          show Steps p.tables e below (T24.setTop (mkF m 76 #[.val (.int p0), .val (.int p1), .val (.int p2), .val (.int p3), .val (.int p4), .val (.int rb), .val (.int nb), .val (.ref rr_11), .val (.ref bb_14), .unset, .unset, .unset] [(.ref bb_14), (.ref bb_24), (.ref bb_19), (.ref rr_11), (.ref b16), (.ref b16)])) _
          refine st28.trans ?_
          show Steps p.tables e below (T28.setTop (mkF m 79 #[.val (.int p0), .val (.int p1), .val (.int p2), .val (.int p3), .val (.int p4), .val (.int rb), .val (.int nb), .val (.ref rr_11), .val (.ref bb_14), .unset, .unset, .unset] [(.ref b16)])) _
          refine XS.astore X28.here hx rfl (hb hby at_79) rfl rfl (l' := #[.val (.int p0), .val (.int p1), .val (.int p2), .val (.int p3), .val (.int p4), .val (.int rb), .val (.int nb), .val (.ref rr_11), .val (.ref bb_14), .val (.ref b16), .unset, .unset]) rfl ?_
          show Steps p.tables e below (T28.setTop (mkF m 81 #[.val (.int p0), .val (.int p1), .val (.int p2), .val (.int p3), .val (.int p4), .val (.int rb), .val (.int nb), .val (.ref rr_11), .val (.ref bb_14), .val (.ref b16), .unset, .unset] [])) _
          refine XS.aload X28.here hx rfl (hb hby at_81) rfl rfl ?_
          show Steps p.tables e below (T28.setTop (mkF m 83 #[.val (.int p0), .val (.int p1), .val (.int p2), .val (.int p3), .val (.int p4), .val (.int rb), .val (.int nb), .val (.ref rr_11), .val (.ref bb_14), .val (.ref b16), .unset, .unset] [(.ref b16)])) _
          refine XS.iload X28.here hx rfl (hb hby at_83) rfl ?_
          show Steps p.tables e below (T28.setTop (mkF m 85 #[.val (.int p0), .val (.int p1), .val (.int p2), .val (.int p3), .val (.int p4), .val (.int rb), .val (.int nb), .val (.ref rr_11), .val (.ref bb_14), .val (.ref b16), .unset, .unset] [(.int rb), (.ref b16)])) _
          refine st36.trans ?_
          show Steps p.tables e below (T36.setTop (mkF m 88 #[.val (.int p0), .val (.int p1), .val (.int p2), .val (.int p3), .val (.int p4), .val (.int rb), .val (.int nb), .val (.ref rr_11), .val (.ref bb_14), .val (.ref b16), .unset, .unset] [(.ref bb_36), (.ref b16)])) _
          refine XS.iload Xr36.here hx rfl (hb hby at_88) rfl ?_
          show Steps p.tables e below (T36.setTop (mkF m 90 #[.val (.int p0), .val (.int p1), .val (.int p2), .val (.int p3), .val (.int p4), .val (.int rb), .val (.int nb), .val (.ref rr_11), .val (.ref bb_14), .val (.ref b16), .unset, .unset] [(.int nb), (.ref bb_36), (.ref b16)])) _
          refine st41.trans ?_
          exact kt)
        rcases hv45 with ⟨hv45, hd45_0⟩ | ⟨hv45, hd45_0⟩
        · subst hv45
          obtain ⟨_, _, ⟨T64, L64, k64, n64⟩, -, X64, ⟨Lc64, hQ64, l64, y64, z64⟩, st64⟩ := Jvm.LawKit.callS X45 hx (y := (⟨"com/example/wudaokou/wudaokou/model/SensitiveCallIsNamedByPinLaw", "same", "(II)Z"⟩ : MethodName)) hown41 (mvT hZ41 (own_k hw 68 rfl)) (mvT hZ41 (own_k hw 69 rfl)) (mvT hZ41 (own_k hw 2 rfl)) (mvT hZ41 (own_k hw 70 rfl)) (by decide) (backOf (W := 0) (rmSame l Z a0 hw [] p0 rb T41.heap n0 f61 ) hZ41 (own_k hw 70 rfl) (own_k hw 2 rfl) (by decide) (by decide)) (g := (mkF m 101 #[.val (.int p0), .val (.int p1), .val (.int p2), .val (.int p3), .val (.int p4), .val (.int rb), .val (.int nb), .val (.ref rr_11), .val (.ref bb_14), .val (.ref b16), .val (.int (1 : Int32)), .unset] [(.int rb), (.int p0)])) rfl (by rw [hml]; rfl) (argsL := [(.int p0), (.int rb)]) (rest := []) (lenOf own_pd_8 rfl) rfl (by show 2 * 0 + _ ≤ _; exact Nat.le_of_eq rfl) (hb hby at_101) (fun _ _ => ⟨rfl, eh45, (by decide : 21 + 0 ≤ _), (by decide : 54 + 0 ≤ _)⟩)
          dsimp only [Pt.U, Pt.locs, Pt.cells, Pt.slots] at X64 l64 y64 z64 st64 hQ64
          subst l64 y64 z64
          obtain ⟨Nq64, eh64, hv64⟩ := hQ64
          have N64 := Fr.app N45 Nq64
          rcases hv64 with ⟨hv64, hd64_0⟩ | ⟨hv64, hd64_0⟩
          · subst hv64
            obtain ⟨_, _, ⟨T65, L65, k65, n65⟩, -, X65, ⟨Lc65, hQ65, l65, y65, z65⟩, st65⟩ := Jvm.LawKit.callS X64 hx (y := (⟨"com/example/wudaokou/wudaokou/model/SensitiveCallIsNamedByPinLaw", "same", "(II)Z"⟩ : MethodName)) hown41 (mvT hZ41 (own_k hw 68 rfl)) (mvT hZ41 (own_k hw 69 rfl)) (mvT hZ41 (own_k hw 2 rfl)) (mvT hZ41 (own_k hw 70 rfl)) (by decide) (backOf (W := 0) (rmSame l Z a0 hw [] p1 nb T41.heap n0 f61 ) hZ41 (own_k hw 70 rfl) (own_k hw 2 rfl) (by decide) (by decide)) (g := (mkF m 110 #[.val (.int p0), .val (.int p1), .val (.int p2), .val (.int p3), .val (.int p4), .val (.int rb), .val (.int nb), .val (.ref rr_11), .val (.ref bb_14), .val (.ref b16), .val (.int (1 : Int32)), .unset] [(.int nb), (.int p1)])) rfl (by rw [hml]; rfl) (argsL := [(.int p1), (.int nb)]) (rest := []) (lenOf own_pd_8 rfl) rfl (by show 2 * 0 + _ ≤ _; exact Nat.le_of_eq rfl) (hb hby at_110) (fun _ _ => ⟨rfl, eh64, (by decide : 21 + 0 ≤ _), (by decide : 54 + 0 ≤ _)⟩)
            dsimp only [Pt.U, Pt.locs, Pt.cells, Pt.slots] at X65 l65 y65 z65 st65 hQ65
            subst l65 y65 z65
            obtain ⟨Nq65, eh65, hv65⟩ := hQ65
            have N65 := Fr.app N64 Nq65
            rcases hv65 with ⟨hv65, hd65_0⟩ | ⟨hv65, hd65_0⟩
            · subst hv65
              have hRe := R44.trans (CHv.at X65 hZ41 hEL R44.1)
              rw [← eh65] at hRe
              rw [← hh] at hRe
              obtain ⟨fs, hr, hrun, hended, hend⟩ := X65.leaveW hS41 (by rw [eh65]; exact Y41) (v := (some (.int (1 : Int32)))) (fun h => by rw [Bd.returns] at h; cases h)
              refine ⟨_, _, pre63 _ ?_, hrun, hended, _, _, rfl, ?_, hRe, hend.1, hend.2.1, hend.2.2.1, hend.2.2.2.mono (by decide) (by decide)⟩
              · show Steps p.tables e below (T41.setTop (mkF m 93 #[.val (.int p0), .val (.int p1), .val (.int p2), .val (.int p3), .val (.int p4), .val (.int rb), .val (.int nb), .val (.ref rr_11), .val (.ref bb_14), .val (.ref b16), .unset, .unset] [(.ref bb_41), (.ref bb_36), (.ref b16)])) _
                refine st45.trans ?_
                show Steps p.tables e below (T45.setTop (mkF m 96 #[.val (.int p0), .val (.int p1), .val (.int p2), .val (.int p3), .val (.int p4), .val (.int rb), .val (.int nb), .val (.ref rr_11), .val (.ref bb_14), .val (.ref b16), .unset, .unset] [(.int (1 : Int32))])) _
                refine XS.istore X45.here hx rfl (hb hby at_96) rfl (l' := #[.val (.int p0), .val (.int p1), .val (.int p2), .val (.int p3), .val (.int p4), .val (.int rb), .val (.int nb), .val (.ref rr_11), .val (.ref bb_14), .val (.ref b16), .val (.int (1 : Int32)), .unset]) rfl ?_
                show Steps p.tables e below (T45.setTop (mkF m 98 #[.val (.int p0), .val (.int p1), .val (.int p2), .val (.int p3), .val (.int p4), .val (.int rb), .val (.int nb), .val (.ref rr_11), .val (.ref bb_14), .val (.ref b16), .val (.int (1 : Int32)), .unset] [])) _
                refine XS.iloadN X45.here hx rfl (hb hby at_98) rfl ?_
                show Steps p.tables e below (T45.setTop (mkF m 99 #[.val (.int p0), .val (.int p1), .val (.int p2), .val (.int p3), .val (.int p4), .val (.int rb), .val (.int nb), .val (.ref rr_11), .val (.ref bb_14), .val (.ref b16), .val (.int (1 : Int32)), .unset] [(.int p0)])) _
                refine XS.iload X45.here hx rfl (hb hby at_99) rfl ?_
                show Steps p.tables e below (T45.setTop (mkF m 101 #[.val (.int p0), .val (.int p1), .val (.int p2), .val (.int p3), .val (.int p4), .val (.int rb), .val (.int nb), .val (.ref rr_11), .val (.ref bb_14), .val (.ref b16), .val (.int (1 : Int32)), .unset] [(.int rb), (.int p0)])) _
                refine st64 _ ?_
                show Steps p.tables e below (T64.setTop (mkF m 104 #[.val (.int p0), .val (.int p1), .val (.int p2), .val (.int p3), .val (.int p4), .val (.int rb), .val (.int nb), .val (.ref rr_11), .val (.ref bb_14), .val (.ref b16), .val (.int (1 : Int32)), .unset] [(.int (1 : Int32))])) _
                refine XS.ifNo X64.here hx rfl (hb hby at_104) rfl (by decide) ?_
                show Steps p.tables e below (T64.setTop (mkF m 107 #[.val (.int p0), .val (.int p1), .val (.int p2), .val (.int p3), .val (.int p4), .val (.int rb), .val (.int nb), .val (.ref rr_11), .val (.ref bb_14), .val (.ref b16), .val (.int (1 : Int32)), .unset] [])) _
                refine XS.iloadN X64.here hx rfl (hb hby at_107) rfl ?_
                show Steps p.tables e below (T64.setTop (mkF m 108 #[.val (.int p0), .val (.int p1), .val (.int p2), .val (.int p3), .val (.int p4), .val (.int rb), .val (.int nb), .val (.ref rr_11), .val (.ref bb_14), .val (.ref b16), .val (.int (1 : Int32)), .unset] [(.int p1)])) _
                refine XS.iload X64.here hx rfl (hb hby at_108) rfl ?_
                show Steps p.tables e below (T64.setTop (mkF m 110 #[.val (.int p0), .val (.int p1), .val (.int p2), .val (.int p3), .val (.int p4), .val (.int rb), .val (.int nb), .val (.ref rr_11), .val (.ref bb_14), .val (.ref b16), .val (.int (1 : Int32)), .unset] [(.int nb), (.int p1)])) _
                refine st65 _ ?_
                show Steps p.tables e below (T65.setTop (mkF m 113 #[.val (.int p0), .val (.int p1), .val (.int p2), .val (.int p3), .val (.int p4), .val (.int rb), .val (.int nb), .val (.ref rr_11), .val (.ref bb_14), .val (.ref b16), .val (.int (1 : Int32)), .unset] [(.int (1 : Int32))])) _
                refine XS.ifNo X65.here hx rfl (hb hby at_113) rfl (by decide) ?_
                show Steps p.tables e below (T65.setTop (mkF m 116 #[.val (.int p0), .val (.int p1), .val (.int p2), .val (.int p3), .val (.int p4), .val (.int rb), .val (.int nb), .val (.ref rr_11), .val (.ref bb_14), .val (.ref b16), .val (.int (1 : Int32)), .unset] [])) _
                refine XS.iconst X65.here hx rfl (hb hby at_116) ?_
                show Steps p.tables e below (T65.setTop (mkF m 117 #[.val (.int p0), .val (.int p1), .val (.int p2), .val (.int p3), .val (.int p4), .val (.int rb), .val (.int nb), .val (.ref rr_11), .val (.ref bb_14), .val (.ref b16), .val (.int (1 : Int32)), .unset] [(.int (1 : Int32))])) _
                refine XS.goto X65.here hx rfl (pc0 := 117) (pc' := 121) rfl (hb hby at_117) (by decide) (by decide) ?_
                show Steps p.tables e below (T65.setTop (mkF m 121 #[.val (.int p0), .val (.int p1), .val (.int p2), .val (.int p3), .val (.int p4), .val (.int rb), .val (.int nb), .val (.ref rr_11), .val (.ref bb_14), .val (.ref b16), .val (.int (1 : Int32)), .unset] [(.int (1 : Int32))])) _
                refine XS.istore X65.here hx rfl (hb hby at_121) rfl (l' := #[.val (.int p0), .val (.int p1), .val (.int p2), .val (.int p3), .val (.int p4), .val (.int rb), .val (.int nb), .val (.ref rr_11), .val (.ref bb_14), .val (.ref b16), .val (.int (1 : Int32)), .val (.int (1 : Int32))]) rfl ?_
                show Steps p.tables e below (T65.setTop (mkF m 123 #[.val (.int p0), .val (.int p1), .val (.int p2), .val (.int p3), .val (.int p4), .val (.int rb), .val (.int nb), .val (.ref rr_11), .val (.ref bb_14), .val (.ref b16), .val (.int (1 : Int32)), .val (.int (1 : Int32))] [])) _
                refine XS.iload X65.here hx rfl (hb hby at_123) rfl ?_
                show Steps p.tables e below (T65.setTop (mkF m 125 #[.val (.int p0), .val (.int p1), .val (.int p2), .val (.int p3), .val (.int p4), .val (.int rb), .val (.int nb), .val (.ref rr_11), .val (.ref bb_14), .val (.ref b16), .val (.int (1 : Int32)), .val (.int (1 : Int32))] [(.int (1 : Int32))])) _
                refine XS.iload X65.here hx rfl (hb hby at_125) rfl ?_
                show Steps p.tables e below (T65.setTop (mkF m 127 #[.val (.int p0), .val (.int p1), .val (.int p2), .val (.int p3), .val (.int p4), .val (.int rb), .val (.int nb), .val (.ref rr_11), .val (.ref bb_14), .val (.ref b16), .val (.int (1 : Int32)), .val (.int (1 : Int32))] [(.int (1 : Int32)), (.int (1 : Int32))])) _
                refine XS.icmpNo X65.here hx rfl (hb hby at_127) rfl (by decide) ?_
                show Steps p.tables e below (T65.setTop (mkF m 130 #[.val (.int p0), .val (.int p1), .val (.int p2), .val (.int p3), .val (.int p4), .val (.int rb), .val (.int nb), .val (.ref rr_11), .val (.ref bb_14), .val (.ref b16), .val (.int (1 : Int32)), .val (.int (1 : Int32))] [])) _
                refine XS.iconst X65.here hx rfl (hb hby at_130) ?_
                show Steps p.tables e below (T65.setTop (mkF m 131 #[.val (.int p0), .val (.int p1), .val (.int p2), .val (.int p3), .val (.int p4), .val (.int rb), .val (.int nb), .val (.ref rr_11), .val (.ref bb_14), .val (.ref b16), .val (.int (1 : Int32)), .val (.int (1 : Int32))] [(.int (1 : Int32))])) _
                refine XS.goto X65.here hx rfl (pc0 := 131) (pc' := 135) rfl (hb hby at_131) (by decide) (by decide) ?_
                show Steps p.tables e below (T65.setTop (mkF m 135 #[.val (.int p0), .val (.int p1), .val (.int p2), .val (.int p3), .val (.int p4), .val (.int rb), .val (.int nb), .val (.ref rr_11), .val (.ref bb_14), .val (.ref b16), .val (.int (1 : Int32)), .val (.int (1 : Int32))] [(.int (1 : Int32))])) _
                exact retN X65 hx (t := .boolean) Bd.returns (by simp) (hb hby at_135) hr
              · show Q0 Z p0 p1 p2 p3 p4 G1 u0 u1 u2 u3 h0 n0 _ T65.heap _
                rw [eh65]
                exact ⟨N65, rfl⟩
            · subst hv65
              exact absurd hd45_0.2 hd65_0
          · subst hv64
            exact absurd hd45_0.1 hd64_0
        · subst hv45
          obtain ⟨_, _, ⟨T66, L66, k66, n66⟩, -, X66, ⟨Lc66, hQ66, l66, y66, z66⟩, st66⟩ := Jvm.LawKit.callS X45 hx (y := (⟨"com/example/wudaokou/wudaokou/model/SensitiveCallIsNamedByPinLaw", "same", "(II)Z"⟩ : MethodName)) hown41 (mvT hZ41 (own_k hw 68 rfl)) (mvT hZ41 (own_k hw 69 rfl)) (mvT hZ41 (own_k hw 2 rfl)) (mvT hZ41 (own_k hw 70 rfl)) (by decide) (backOf (W := 0) (rmSame l Z a0 hw [] p0 rb T41.heap n0 f61 ) hZ41 (own_k hw 70 rfl) (own_k hw 2 rfl) (by decide) (by decide)) (g := (mkF m 101 #[.val (.int p0), .val (.int p1), .val (.int p2), .val (.int p3), .val (.int p4), .val (.int rb), .val (.int nb), .val (.ref rr_11), .val (.ref bb_14), .val (.ref b16), .val (.int (0 : Int32)), .unset] [(.int rb), (.int p0)])) rfl (by rw [hml]; rfl) (argsL := [(.int p0), (.int rb)]) (rest := []) (lenOf own_pd_8 rfl) rfl (by show 2 * 0 + _ ≤ _; exact Nat.le_of_eq rfl) (hb hby at_101) (fun _ _ => ⟨rfl, eh45, (by decide : 21 + 0 ≤ _), (by decide : 54 + 0 ≤ _)⟩)
          dsimp only [Pt.U, Pt.locs, Pt.cells, Pt.slots] at X66 l66 y66 z66 st66 hQ66
          subst l66 y66 z66
          obtain ⟨Nq66, eh66, hv66⟩ := hQ66
          have N66 := Fr.app N45 Nq66
          have pre67 : ∀ t, Steps p.tables e below (T45.setTop (mkF m 101 #[.val (.int p0), .val (.int p1), .val (.int p2), .val (.int p3), .val (.int p4), .val (.int rb), .val (.int nb), .val (.ref rr_11), .val (.ref bb_14), .val (.ref b16), .val (.int (0 : Int32)), .unset] [(.int rb), (.int p0)])) t → Steps p.tables e below (s₁.setTop (entryFrame m #[(.int p0), (.int p1), (.int p2), (.int p3), (.int p4)] maxLocals)) t := fun t kt => pre63 t (by
            show Steps p.tables e below (T41.setTop (mkF m 93 #[.val (.int p0), .val (.int p1), .val (.int p2), .val (.int p3), .val (.int p4), .val (.int rb), .val (.int nb), .val (.ref rr_11), .val (.ref bb_14), .val (.ref b16), .unset, .unset] [(.ref bb_41), (.ref bb_36), (.ref b16)])) _
            refine st45.trans ?_
            show Steps p.tables e below (T45.setTop (mkF m 96 #[.val (.int p0), .val (.int p1), .val (.int p2), .val (.int p3), .val (.int p4), .val (.int rb), .val (.int nb), .val (.ref rr_11), .val (.ref bb_14), .val (.ref b16), .unset, .unset] [(.int (0 : Int32))])) _
            refine XS.istore X45.here hx rfl (hb hby at_96) rfl (l' := #[.val (.int p0), .val (.int p1), .val (.int p2), .val (.int p3), .val (.int p4), .val (.int rb), .val (.int nb), .val (.ref rr_11), .val (.ref bb_14), .val (.ref b16), .val (.int (0 : Int32)), .unset]) rfl ?_
            show Steps p.tables e below (T45.setTop (mkF m 98 #[.val (.int p0), .val (.int p1), .val (.int p2), .val (.int p3), .val (.int p4), .val (.int rb), .val (.int nb), .val (.ref rr_11), .val (.ref bb_14), .val (.ref b16), .val (.int (0 : Int32)), .unset] [])) _
            refine XS.iloadN X45.here hx rfl (hb hby at_98) rfl ?_
            show Steps p.tables e below (T45.setTop (mkF m 99 #[.val (.int p0), .val (.int p1), .val (.int p2), .val (.int p3), .val (.int p4), .val (.int rb), .val (.int nb), .val (.ref rr_11), .val (.ref bb_14), .val (.ref b16), .val (.int (0 : Int32)), .unset] [(.int p0)])) _
            refine XS.iload X45.here hx rfl (hb hby at_99) rfl ?_
            exact kt)
          rcases hv66 with ⟨hv66, hd66_0⟩ | ⟨hv66, hd66_0⟩
          · subst hv66
            obtain ⟨_, _, ⟨T68, L68, k68, n68⟩, -, X68, ⟨Lc68, hQ68, l68, y68, z68⟩, st68⟩ := Jvm.LawKit.callS X66 hx (y := (⟨"com/example/wudaokou/wudaokou/model/SensitiveCallIsNamedByPinLaw", "same", "(II)Z"⟩ : MethodName)) hown41 (mvT hZ41 (own_k hw 68 rfl)) (mvT hZ41 (own_k hw 69 rfl)) (mvT hZ41 (own_k hw 2 rfl)) (mvT hZ41 (own_k hw 70 rfl)) (by decide) (backOf (W := 0) (rmSame l Z a0 hw [] p1 nb T41.heap n0 f61 ) hZ41 (own_k hw 70 rfl) (own_k hw 2 rfl) (by decide) (by decide)) (g := (mkF m 110 #[.val (.int p0), .val (.int p1), .val (.int p2), .val (.int p3), .val (.int p4), .val (.int rb), .val (.int nb), .val (.ref rr_11), .val (.ref bb_14), .val (.ref b16), .val (.int (0 : Int32)), .unset] [(.int nb), (.int p1)])) rfl (by rw [hml]; rfl) (argsL := [(.int p1), (.int nb)]) (rest := []) (lenOf own_pd_8 rfl) rfl (by show 2 * 0 + _ ≤ _; exact Nat.le_of_eq rfl) (hb hby at_110) (fun _ _ => ⟨rfl, eh66, (by decide : 21 + 0 ≤ _), (by decide : 54 + 0 ≤ _)⟩)
            dsimp only [Pt.U, Pt.locs, Pt.cells, Pt.slots] at X68 l68 y68 z68 st68 hQ68
            subst l68 y68 z68
            obtain ⟨Nq68, eh68, hv68⟩ := hQ68
            have N68 := Fr.app N66 Nq68
            have pre69 : ∀ t, Steps p.tables e below (T66.setTop (mkF m 110 #[.val (.int p0), .val (.int p1), .val (.int p2), .val (.int p3), .val (.int p4), .val (.int rb), .val (.int nb), .val (.ref rr_11), .val (.ref bb_14), .val (.ref b16), .val (.int (0 : Int32)), .unset] [(.int nb), (.int p1)])) t → Steps p.tables e below (s₁.setTop (entryFrame m #[(.int p0), (.int p1), (.int p2), (.int p3), (.int p4)] maxLocals)) t := fun t kt => pre67 t (by
              show Steps p.tables e below (T45.setTop (mkF m 101 #[.val (.int p0), .val (.int p1), .val (.int p2), .val (.int p3), .val (.int p4), .val (.int rb), .val (.int nb), .val (.ref rr_11), .val (.ref bb_14), .val (.ref b16), .val (.int (0 : Int32)), .unset] [(.int rb), (.int p0)])) _
              refine st66 _ ?_
              show Steps p.tables e below (T66.setTop (mkF m 104 #[.val (.int p0), .val (.int p1), .val (.int p2), .val (.int p3), .val (.int p4), .val (.int rb), .val (.int nb), .val (.ref rr_11), .val (.ref bb_14), .val (.ref b16), .val (.int (0 : Int32)), .unset] [(.int (1 : Int32))])) _
              refine XS.ifNo X66.here hx rfl (hb hby at_104) rfl (by decide) ?_
              show Steps p.tables e below (T66.setTop (mkF m 107 #[.val (.int p0), .val (.int p1), .val (.int p2), .val (.int p3), .val (.int p4), .val (.int rb), .val (.int nb), .val (.ref rr_11), .val (.ref bb_14), .val (.ref b16), .val (.int (0 : Int32)), .unset] [])) _
              refine XS.iloadN X66.here hx rfl (hb hby at_107) rfl ?_
              show Steps p.tables e below (T66.setTop (mkF m 108 #[.val (.int p0), .val (.int p1), .val (.int p2), .val (.int p3), .val (.int p4), .val (.int rb), .val (.int nb), .val (.ref rr_11), .val (.ref bb_14), .val (.ref b16), .val (.int (0 : Int32)), .unset] [(.int p1)])) _
              refine XS.iload X66.here hx rfl (hb hby at_108) rfl ?_
              exact kt)
            rcases hv68 with ⟨hv68, hd68_0⟩ | ⟨hv68, hd68_0⟩
            · subst hv68
              exact absurd ⟨hd66_0, hd68_0⟩ hd45_0
            · subst hv68
              have hRe := R44.trans (CHv.at X68 hZ41 hEL R44.1)
              rw [← eh68] at hRe
              rw [← hh] at hRe
              obtain ⟨fs, hr, hrun, hended, hend⟩ := X68.leaveW hS41 (by rw [eh68]; exact Y41) (v := (some (.int (1 : Int32)))) (fun h => by rw [Bd.returns] at h; cases h)
              refine ⟨_, _, pre69 _ ?_, hrun, hended, _, _, rfl, ?_, hRe, hend.1, hend.2.1, hend.2.2.1, hend.2.2.2.mono (by decide) (by decide)⟩
              · show Steps p.tables e below (T66.setTop (mkF m 110 #[.val (.int p0), .val (.int p1), .val (.int p2), .val (.int p3), .val (.int p4), .val (.int rb), .val (.int nb), .val (.ref rr_11), .val (.ref bb_14), .val (.ref b16), .val (.int (0 : Int32)), .unset] [(.int nb), (.int p1)])) _
                refine st68 _ ?_
                show Steps p.tables e below (T68.setTop (mkF m 113 #[.val (.int p0), .val (.int p1), .val (.int p2), .val (.int p3), .val (.int p4), .val (.int rb), .val (.int nb), .val (.ref rr_11), .val (.ref bb_14), .val (.ref b16), .val (.int (0 : Int32)), .unset] [(.int (0 : Int32))])) _
                refine XS.ifYes X68.here hx rfl (pc0 := 113) (pc' := 120) rfl (hb hby at_113) rfl (by decide) (by decide) (by decide) ?_
                show Steps p.tables e below (T68.setTop (mkF m 120 #[.val (.int p0), .val (.int p1), .val (.int p2), .val (.int p3), .val (.int p4), .val (.int rb), .val (.int nb), .val (.ref rr_11), .val (.ref bb_14), .val (.ref b16), .val (.int (0 : Int32)), .unset] [])) _
                refine XS.iconst X68.here hx rfl (hb hby at_120) ?_
                show Steps p.tables e below (T68.setTop (mkF m 121 #[.val (.int p0), .val (.int p1), .val (.int p2), .val (.int p3), .val (.int p4), .val (.int rb), .val (.int nb), .val (.ref rr_11), .val (.ref bb_14), .val (.ref b16), .val (.int (0 : Int32)), .unset] [(.int (0 : Int32))])) _
                refine XS.istore X68.here hx rfl (hb hby at_121) rfl (l' := #[.val (.int p0), .val (.int p1), .val (.int p2), .val (.int p3), .val (.int p4), .val (.int rb), .val (.int nb), .val (.ref rr_11), .val (.ref bb_14), .val (.ref b16), .val (.int (0 : Int32)), .val (.int (0 : Int32))]) rfl ?_
                show Steps p.tables e below (T68.setTop (mkF m 123 #[.val (.int p0), .val (.int p1), .val (.int p2), .val (.int p3), .val (.int p4), .val (.int rb), .val (.int nb), .val (.ref rr_11), .val (.ref bb_14), .val (.ref b16), .val (.int (0 : Int32)), .val (.int (0 : Int32))] [])) _
                refine XS.iload X68.here hx rfl (hb hby at_123) rfl ?_
                show Steps p.tables e below (T68.setTop (mkF m 125 #[.val (.int p0), .val (.int p1), .val (.int p2), .val (.int p3), .val (.int p4), .val (.int rb), .val (.int nb), .val (.ref rr_11), .val (.ref bb_14), .val (.ref b16), .val (.int (0 : Int32)), .val (.int (0 : Int32))] [(.int (0 : Int32))])) _
                refine XS.iload X68.here hx rfl (hb hby at_125) rfl ?_
                show Steps p.tables e below (T68.setTop (mkF m 127 #[.val (.int p0), .val (.int p1), .val (.int p2), .val (.int p3), .val (.int p4), .val (.int rb), .val (.int nb), .val (.ref rr_11), .val (.ref bb_14), .val (.ref b16), .val (.int (0 : Int32)), .val (.int (0 : Int32))] [(.int (0 : Int32)), (.int (0 : Int32))])) _
                refine XS.icmpNo X68.here hx rfl (hb hby at_127) rfl (by decide) ?_
                show Steps p.tables e below (T68.setTop (mkF m 130 #[.val (.int p0), .val (.int p1), .val (.int p2), .val (.int p3), .val (.int p4), .val (.int rb), .val (.int nb), .val (.ref rr_11), .val (.ref bb_14), .val (.ref b16), .val (.int (0 : Int32)), .val (.int (0 : Int32))] [])) _
                refine XS.iconst X68.here hx rfl (hb hby at_130) ?_
                show Steps p.tables e below (T68.setTop (mkF m 131 #[.val (.int p0), .val (.int p1), .val (.int p2), .val (.int p3), .val (.int p4), .val (.int rb), .val (.int nb), .val (.ref rr_11), .val (.ref bb_14), .val (.ref b16), .val (.int (0 : Int32)), .val (.int (0 : Int32))] [(.int (1 : Int32))])) _
                refine XS.goto X68.here hx rfl (pc0 := 131) (pc' := 135) rfl (hb hby at_131) (by decide) (by decide) ?_
                show Steps p.tables e below (T68.setTop (mkF m 135 #[.val (.int p0), .val (.int p1), .val (.int p2), .val (.int p3), .val (.int p4), .val (.int rb), .val (.int nb), .val (.ref rr_11), .val (.ref bb_14), .val (.ref b16), .val (.int (0 : Int32)), .val (.int (0 : Int32))] [(.int (1 : Int32))])) _
                exact retN X68 hx (t := .boolean) Bd.returns (by simp) (hb hby at_135) hr
              · show Q0 Z p0 p1 p2 p3 p4 G1 u0 u1 u2 u3 h0 n0 _ T68.heap _
                rw [eh68]
                exact ⟨N68, rfl⟩
          · subst hv66
            have hRe := R44.trans (CHv.at X66 hZ41 hEL R44.1)
            rw [← eh66] at hRe
            rw [← hh] at hRe
            obtain ⟨fs, hr, hrun, hended, hend⟩ := X66.leaveW hS41 (by rw [eh66]; exact Y41) (v := (some (.int (1 : Int32)))) (fun h => by rw [Bd.returns] at h; cases h)
            refine ⟨_, _, pre67 _ ?_, hrun, hended, _, _, rfl, ?_, hRe, hend.1, hend.2.1, hend.2.2.1, hend.2.2.2.mono (by decide) (by decide)⟩
            · show Steps p.tables e below (T45.setTop (mkF m 101 #[.val (.int p0), .val (.int p1), .val (.int p2), .val (.int p3), .val (.int p4), .val (.int rb), .val (.int nb), .val (.ref rr_11), .val (.ref bb_14), .val (.ref b16), .val (.int (0 : Int32)), .unset] [(.int rb), (.int p0)])) _
              refine st66 _ ?_
              show Steps p.tables e below (T66.setTop (mkF m 104 #[.val (.int p0), .val (.int p1), .val (.int p2), .val (.int p3), .val (.int p4), .val (.int rb), .val (.int nb), .val (.ref rr_11), .val (.ref bb_14), .val (.ref b16), .val (.int (0 : Int32)), .unset] [(.int (0 : Int32))])) _
              refine XS.ifYes X66.here hx rfl (pc0 := 104) (pc' := 120) rfl (hb hby at_104) rfl (by decide) (by decide) (by decide) ?_
              show Steps p.tables e below (T66.setTop (mkF m 120 #[.val (.int p0), .val (.int p1), .val (.int p2), .val (.int p3), .val (.int p4), .val (.int rb), .val (.int nb), .val (.ref rr_11), .val (.ref bb_14), .val (.ref b16), .val (.int (0 : Int32)), .unset] [])) _
              refine XS.iconst X66.here hx rfl (hb hby at_120) ?_
              show Steps p.tables e below (T66.setTop (mkF m 121 #[.val (.int p0), .val (.int p1), .val (.int p2), .val (.int p3), .val (.int p4), .val (.int rb), .val (.int nb), .val (.ref rr_11), .val (.ref bb_14), .val (.ref b16), .val (.int (0 : Int32)), .unset] [(.int (0 : Int32))])) _
              refine XS.istore X66.here hx rfl (hb hby at_121) rfl (l' := #[.val (.int p0), .val (.int p1), .val (.int p2), .val (.int p3), .val (.int p4), .val (.int rb), .val (.int nb), .val (.ref rr_11), .val (.ref bb_14), .val (.ref b16), .val (.int (0 : Int32)), .val (.int (0 : Int32))]) rfl ?_
              show Steps p.tables e below (T66.setTop (mkF m 123 #[.val (.int p0), .val (.int p1), .val (.int p2), .val (.int p3), .val (.int p4), .val (.int rb), .val (.int nb), .val (.ref rr_11), .val (.ref bb_14), .val (.ref b16), .val (.int (0 : Int32)), .val (.int (0 : Int32))] [])) _
              refine XS.iload X66.here hx rfl (hb hby at_123) rfl ?_
              show Steps p.tables e below (T66.setTop (mkF m 125 #[.val (.int p0), .val (.int p1), .val (.int p2), .val (.int p3), .val (.int p4), .val (.int rb), .val (.int nb), .val (.ref rr_11), .val (.ref bb_14), .val (.ref b16), .val (.int (0 : Int32)), .val (.int (0 : Int32))] [(.int (0 : Int32))])) _
              refine XS.iload X66.here hx rfl (hb hby at_125) rfl ?_
              show Steps p.tables e below (T66.setTop (mkF m 127 #[.val (.int p0), .val (.int p1), .val (.int p2), .val (.int p3), .val (.int p4), .val (.int rb), .val (.int nb), .val (.ref rr_11), .val (.ref bb_14), .val (.ref b16), .val (.int (0 : Int32)), .val (.int (0 : Int32))] [(.int (0 : Int32)), (.int (0 : Int32))])) _
              refine XS.icmpNo X66.here hx rfl (hb hby at_127) rfl (by decide) ?_
              show Steps p.tables e below (T66.setTop (mkF m 130 #[.val (.int p0), .val (.int p1), .val (.int p2), .val (.int p3), .val (.int p4), .val (.int rb), .val (.int nb), .val (.ref rr_11), .val (.ref bb_14), .val (.ref b16), .val (.int (0 : Int32)), .val (.int (0 : Int32))] [])) _
              refine XS.iconst X66.here hx rfl (hb hby at_130) ?_
              show Steps p.tables e below (T66.setTop (mkF m 131 #[.val (.int p0), .val (.int p1), .val (.int p2), .val (.int p3), .val (.int p4), .val (.int rb), .val (.int nb), .val (.ref rr_11), .val (.ref bb_14), .val (.ref b16), .val (.int (0 : Int32)), .val (.int (0 : Int32))] [(.int (1 : Int32))])) _
              refine XS.goto X66.here hx rfl (pc0 := 131) (pc' := 135) rfl (hb hby at_131) (by decide) (by decide) ?_
              show Steps p.tables e below (T66.setTop (mkF m 135 #[.val (.int p0), .val (.int p1), .val (.int p2), .val (.int p3), .val (.int p4), .val (.int rb), .val (.int nb), .val (.ref rr_11), .val (.ref bb_14), .val (.ref b16), .val (.int (0 : Int32)), .val (.int (0 : Int32))] [(.int (1 : Int32))])) _
              exact retN X66 hx (t := .boolean) Bd.returns (by simp) (hb hby at_135) hr
            · show Q0 Z p0 p1 p2 p3 p4 G1 u0 u1 u2 u3 h0 n0 _ T66.heap _
              rw [eh66]
              exact ⟨N66, rfl⟩
      · skip
        obtain ⟨T70, h70, X70, e70, E70, A70, D70, -, st70⟩ := newO X11 hx hZ0 hown0 (own_k hw 32 rfl) (own_k hw 33 rfl) (own_k hw 34 rfl) eh11 (g := (mkF m 60 #[.val (.int p0), .val (.int p1), .val (.int p2), .val (.int p3), .val (.int p4), .val (.int rb), .val (.int nb), .val (.ref rr_11), .val .null, .unset, .unset, .unset] [])) rfl (hb hby at_60) (by decide) (by decide)
        obtain ⟨b70, g70⟩ : ∃ z, z = h0.size := ⟨_, rfl⟩
        rw [← g70] at A70 D70 st70
        have g_b70 : n0 ≤ b70 := Nat.le_trans Z0 (Nat.le_of_eq g70.symm)
        have q_b70 : Safe Z own_EL s.vm h0 b70 := Safe.new (Nat.le_of_eq g70.symm)
        have R71 : CHr Z own_EL s.vm h0 s.vm h70 := R0.trans (CHr.ext E70 R0.1)
        have F70_behaviour : Fld Z h70 b70 "com/example/wudaokou/wudaokou/model/SensitiveCall" "behaviour" "Lcom/example/wudaokou/wudaokou/model/Behaviour;" .null := D70 (Or.inr (own_k hw 45 rfl)) (ty := (.object "com/example/wudaokou/wudaokou/model/Behaviour")) (by decide)
        have F70_declaringType : Fld Z h70 b70 "com/example/wudaokou/wudaokou/model/SensitiveCall" "declaringType" "Ljava/lang/String;" .null := D70 (Or.inr (own_k hw 47 rfl)) (ty := (.object "java/lang/String")) (by decide)
        have F70_methodName : Fld Z h70 b70 "com/example/wudaokou/wudaokou/model/SensitiveCall" "methodName" "Ljava/lang/String;" .null := D70 (Or.inr (own_k hw 49 rfl)) (ty := (.object "java/lang/String")) (by decide)
        have F70_guard : Fld Z h70 b70 "com/example/wudaokou/wudaokou/model/SensitiveCall" "guard" "Ljava/lang/String;" .null := D70 (Or.inr (own_k hw 51 rfl)) (ty := (.object "java/lang/String")) (by decide)
        have f73 : Old Z n0 h70 := (hO.ext E70)
        have f74 : n0 ≤ h70.size := (Nat.le_trans Z0 E70.1)
        obtain ⟨_, _, ⟨T72, L72, k72, n72⟩, -, X72, hSq72, hgq72, ⟨Lc72, hQ72, l72, y72, z72, hR72⟩, st72⟩ := callSS X70 hx (y := (⟨"com/example/wudaokou/wudaokou/model/SensitiveCallIsNamedByPinLaw", "str", "(I)Ljava/lang/String;"⟩ : MethodName)) hown0 (mvT hZ0 (own_k hw 7 rfl)) (mvT hZ0 (own_k hw 8 rfl)) (mvT hZ0 (own_k hw 2 rfl)) (mvT hZ0 (own_k hw 9 rfl)) (by decide) (own_backSQ (W := 3) (rmStr l Z a0 hw [] p0 G1 h70 n0 f74 hS (hG) f73) hZ0 (own_k hw 9 rfl) (own_k hw 2 rfl) (by decide) (by decide) hEL R71.1 sf0 all0) (g := (mkF m 67 #[.val (.int p0), .val (.int p1), .val (.int p2), .val (.int p3), .val (.int p4), .val (.int rb), .val (.int nb), .val (.ref rr_11), .val .null, .unset, .unset, .unset] [(.int p0), (.ref rr_11), (.ref b70), (.ref b70)])) rfl (by rw [hml]; rfl) (argsL := [(.int p0)]) (rest := [(.ref rr_11), (.ref b70), (.ref b70)]) (lenOf own_pd_5 rfl) rfl (by show 2 * 0 + _ ≤ _; exact Nat.le_of_eq rfl) (hb hby at_67) (fun _ _ => ⟨rfl, e70, (by decide : 1 + 4 ≤ _), (by decide : 4 + 10 ≤ _)⟩)
        dsimp only [Pt.U, Pt.locs, Pt.cells, Pt.slots] at X72 l72 y72 z72 st72 hQ72 hSq72 hgq72 hR72
        subst l72 y72 z72
        have f75 : h0.size ≤ h70.size := (Nat.le_trans Y0 E70.1)
        obtain ⟨Xr72, hS72, hZ72, hown72⟩ := rebS hS0 (k0 := h0.size) (by rw [e70]; exact f75) X72 hSq72 hgq72 hZ0 hown0
        obtain ⟨bb_72, tt_72, kk_72, Nq72, Kq72, p72_0, p72_1, p72_2, p72_3, p72_4, p72_5, hv72⟩ := hQ72
        have N72 := Fr.app N11 Nq72
        have g_bb_72 : n0 ≤ bb_72 := Nat.le_trans f74 p72_0
        have q_bb_72 : Safe Z own_EL s.vm h70 bb_72 := Safe.new p72_0
        have R76 : CHr Z own_EL s.vm h0 T72.vm T72.heap := R71.trans (hR72)
        have Y72 : T72.heap.size ≤ T72.heap.size := Nat.le_refl _
        subst hv72
        have f78 : Old Z n0 T72.heap := (f73.keep Kq72 all0)
        have f79 : n0 ≤ T72.heap.size := (Nat.le_trans f74 Kq72.1)
        obtain ⟨_, _, ⟨T77, L77, k77, n77⟩, -, X77, hSq77, hgq77, ⟨Lc77, hQ77, l77, y77, z77, hR77⟩, st77⟩ := callSS Xr72 hx (y := (⟨"com/example/wudaokou/wudaokou/model/SensitiveCallIsNamedByPinLaw", "str", "(I)Ljava/lang/String;"⟩ : MethodName)) hown72 (mvT hZ72 (own_k hw 7 rfl)) (mvT hZ72 (own_k hw 8 rfl)) (mvT hZ72 (own_k hw 2 rfl)) (mvT hZ72 (own_k hw 9 rfl)) (by decide) (own_backSQ (W := 4) (rmStr l Z a0 hw [] p1 G1 T72.heap n0 f79 hS (hG) f78) hZ72 (own_k hw 9 rfl) (own_k hw 2 rfl) (by decide) (by decide) hEL R76.1 sf0 all0) (g := (mkF m 71 #[.val (.int p0), .val (.int p1), .val (.int p2), .val (.int p3), .val (.int p4), .val (.int rb), .val (.int nb), .val (.ref rr_11), .val .null, .unset, .unset, .unset] [(.int p1), (.ref bb_72), (.ref rr_11), (.ref b70), (.ref b70)])) rfl (by rw [hml]; rfl) (argsL := [(.int p1)]) (rest := [(.ref bb_72), (.ref rr_11), (.ref b70), (.ref b70)]) (lenOf own_pd_5 rfl) rfl (by show 2 * 0 + _ ≤ _; exact Nat.le_of_eq rfl) (hb hby at_71) (fun _ _ => ⟨rfl, rfl, (by decide : 5 + 4 ≤ _), (by decide : 14 + 10 ≤ _)⟩)
        dsimp only [Pt.U, Pt.locs, Pt.cells, Pt.slots] at X77 l77 y77 z77 st77 hQ77 hSq77 hgq77 hR77
        subst l77 y77 z77
        obtain ⟨Xr77, hS77, hZ77, hown77⟩ := rebS hS72 (k0 := T72.heap.size) Y72 X77 hSq77 hgq77 hZ72 hown72
        obtain ⟨bb_77, tt_77, kk_77, Nq77, Kq77, p77_0, p77_1, p77_2, p77_3, p77_4, p77_5, hv77⟩ := hQ77
        have N77 := Fr.app N72 Nq77
        have g_bb_77 : n0 ≤ bb_77 := Nat.le_trans f79 p77_0
        have q_bb_77 : Safe Z own_EL T72.vm T72.heap bb_77 := Safe.new p77_0
        have R80 : CHr Z own_EL s.vm h0 T77.vm T77.heap := R76.trans (hR77)
        have Y77 : T77.heap.size ≤ T77.heap.size := Nat.le_refl _
        subst hv77
        have f82 : Exa Z T77.heap b70 "com/example/wudaokou/wudaokou/model/SensitiveCall" := ((A70.keep Kq72).keep Kq77)
        have f83 : Fld Z T77.heap b70 "com/example/wudaokou/wudaokou/model/SensitiveCall" "behaviour" "Lcom/example/wudaokou/wudaokou/model/Behaviour;" .null := ((F70_behaviour.keep Kq72 nin0).keep Kq77 nin0)
        have f84 : Fld Z T77.heap b70 "com/example/wudaokou/wudaokou/model/SensitiveCall" "declaringType" "Ljava/lang/String;" .null := ((F70_declaringType.keep Kq72 nin0).keep Kq77 nin0)
        have f85 : Fld Z T77.heap b70 "com/example/wudaokou/wudaokou/model/SensitiveCall" "methodName" "Ljava/lang/String;" .null := ((F70_methodName.keep Kq72 nin0).keep Kq77 nin0)
        have f86 : Fld Z T77.heap b70 "com/example/wudaokou/wudaokou/model/SensitiveCall" "guard" "Ljava/lang/String;" .null := ((F70_guard.keep Kq72 nin0).keep Kq77 nin0)
        have f87 : n0 ≤ T77.heap.size := (Nat.le_trans f79 Kq77.1)
        obtain ⟨_, _, ⟨T81, L81, k81, n81⟩, -, X81, ⟨Lc81, hQ81, l81, y81, z81⟩, st81⟩ := Xr77.specialBack hx (y := (⟨"com/example/wudaokou/wudaokou/model/SensitiveCall", "<init>", "(Lcom/example/wudaokou/wudaokou/model/Behaviour;Ljava/lang/String;Ljava/lang/String;Ljava/lang/String;)V"⟩ : MethodName)) rfl hown77 (mvT hZ77 (own_k hw 35 rfl)) (mvT hZ77 (own_k hw 36 rfl)) (mvT hZ77 (own_k hw 37 rfl)) (by decide) (backOf (W := 1) (rmInit1 l Z a0 hw [] b70 rr_11 bb_72 bb_77 T77.heap n0 f87 f82 f83 f84 f85 f86 g_b70) hZ77 (own_k hw 37 rfl) (own_k hw 34 rfl) (by decide) (by decide)) (g := (mkF m 76 #[.val (.int p0), .val (.int p1), .val (.int p2), .val (.int p3), .val (.int p4), .val (.int rb), .val (.int nb), .val (.ref rr_11), .val .null, .unset, .unset, .unset] [.null, (.ref bb_77), (.ref bb_72), (.ref rr_11), (.ref b70), (.ref b70)])) rfl (by rw [hml]; rfl) (Steps.refl _) (a := b70) (argsL := [(.ref rr_11), (.ref bb_72), (.ref bb_77), .null]) (rest := [(.ref b70)]) (lenOf own_pd_6 rfl) rfl (by show 2 * 0 + _ ≤ _; exact Nat.le_of_eq rfl) (hb hby at_76) (fun _ _ => ⟨rfl, rfl, (by decide : 9 + 0 ≤ _), (by decide : 24 + 0 ≤ _)⟩)
        dsimp only [Pt.U, Pt.locs, Pt.cells, Pt.slots] at X81 l81 y81 z81 st81 hQ81
        subst l81 y81 z81
        obtain ⟨Nq81, Kq81, p81_0, p81_1, p81_2, hv81⟩ := hQ81
        have N81 := Fr.app N77 Nq81
        have R88 : CHr Z own_EL s.vm h0 T77.vm T81.heap := R80.trans (CHr.keep Kq81 (sfS (Safe.exa hZ77.alike f82 (by decide) (by decide)) sf0) R80.1)
        subst hv81
        have f90 : Old Z n0 T81.heap := ((f78.keep Kq77 all0).keep Kq81 (allS g_b70 all0))
        have f91 : n0 ≤ T81.heap.size := (Nat.le_trans f87 Kq81.1)
        obtain ⟨_, _, ⟨T89, L89, k89, n89⟩, -, X89, hSq89, hgq89, ⟨Lc89, hQ89, l89, y89, z89, hR89⟩, st89⟩ := callSS X81 hx (y := (⟨"com/example/wudaokou/wudaokou/model/SensitiveCallIsNamedByPinLaw", "str", "(I)Ljava/lang/String;"⟩ : MethodName)) hown77 (mvT hZ77 (own_k hw 7 rfl)) (mvT hZ77 (own_k hw 8 rfl)) (mvT hZ77 (own_k hw 2 rfl)) (mvT hZ77 (own_k hw 9 rfl)) (by decide) (own_backSQ (W := 1) (rmStr l Z a0 hw [] rb G1 T81.heap n0 f91 hS (hG) f90) hZ77 (own_k hw 9 rfl) (own_k hw 2 rfl) (by decide) (by decide) hEL R88.1 sf0 all0) (g := (mkF m 85 #[.val (.int p0), .val (.int p1), .val (.int p2), .val (.int p3), .val (.int p4), .val (.int rb), .val (.int nb), .val (.ref rr_11), .val .null, .val (.ref b70), .unset, .unset] [(.int rb), (.ref b70)])) rfl (by rw [hml]; rfl) (argsL := [(.int rb)]) (rest := [(.ref b70)]) (lenOf own_pd_5 rfl) rfl (by show 2 * 0 + _ ≤ _; exact Nat.le_of_eq rfl) (hb hby at_85) (fun _ _ => ⟨rfl, rfl, (by decide : 9 + 4 ≤ _), (by decide : 24 + 10 ≤ _)⟩)
        dsimp only [Pt.U, Pt.locs, Pt.cells, Pt.slots] at X89 l89 y89 z89 st89 hQ89 hSq89 hgq89 hR89
        subst l89 y89 z89
        have f92 : T77.heap.size ≤ T81.heap.size := (Nat.le_trans Y77 Kq81.1)
        obtain ⟨Xr89, hS89, hZ89, hown89⟩ := rebS hS77 (k0 := T77.heap.size) f92 X89 hSq89 hgq89 hZ77 hown77
        obtain ⟨bb_89, tt_89, kk_89, Nq89, Kq89, p89_0, p89_1, p89_2, p89_3, p89_4, p89_5, hv89⟩ := hQ89
        have N89 := Fr.app N81 Nq89
        have g_bb_89 : n0 ≤ bb_89 := Nat.le_trans f91 p89_0
        have q_bb_89 : Safe Z own_EL T77.vm T81.heap bb_89 := Safe.new p89_0
        have R93 : CHr Z own_EL s.vm h0 T89.vm T89.heap := R88.trans (hR89)
        have Y89 : T89.heap.size ≤ T89.heap.size := Nat.le_refl _
        subst hv89
        have f95 : Old Z n0 T89.heap := (f90.keep Kq89 all0)
        have f96 : n0 ≤ T89.heap.size := (Nat.le_trans f91 Kq89.1)
        obtain ⟨_, _, ⟨T94, L94, k94, n94⟩, -, X94, hSq94, hgq94, ⟨Lc94, hQ94, l94, y94, z94, hR94⟩, st94⟩ := callSS Xr89 hx (y := (⟨"com/example/wudaokou/wudaokou/model/SensitiveCallIsNamedByPinLaw", "str", "(I)Ljava/lang/String;"⟩ : MethodName)) hown89 (mvT hZ89 (own_k hw 7 rfl)) (mvT hZ89 (own_k hw 8 rfl)) (mvT hZ89 (own_k hw 2 rfl)) (mvT hZ89 (own_k hw 9 rfl)) (by decide) (own_backSQ (W := 2) (rmStr l Z a0 hw [] nb G1 T89.heap n0 f96 hS (hG) f95) hZ89 (own_k hw 9 rfl) (own_k hw 2 rfl) (by decide) (by decide) hEL R93.1 sf0 all0) (g := (mkF m 90 #[.val (.int p0), .val (.int p1), .val (.int p2), .val (.int p3), .val (.int p4), .val (.int rb), .val (.int nb), .val (.ref rr_11), .val .null, .val (.ref b70), .unset, .unset] [(.int nb), (.ref bb_89), (.ref b70)])) rfl (by rw [hml]; rfl) (argsL := [(.int nb)]) (rest := [(.ref bb_89), (.ref b70)]) (lenOf own_pd_5 rfl) rfl (by show 2 * 0 + _ ≤ _; exact Nat.le_of_eq rfl) (hb hby at_90) (fun _ _ => ⟨rfl, rfl, (by decide : 13 + 4 ≤ _), (by decide : 34 + 10 ≤ _)⟩)
        dsimp only [Pt.U, Pt.locs, Pt.cells, Pt.slots] at X94 l94 y94 z94 st94 hQ94 hSq94 hgq94 hR94
        subst l94 y94 z94
        obtain ⟨Xr94, hS94, hZ94, hown94⟩ := rebS hS89 (k0 := T89.heap.size) Y89 X94 hSq94 hgq94 hZ89 hown89
        obtain ⟨bb_94, tt_94, kk_94, Nq94, Kq94, p94_0, p94_1, p94_2, p94_3, p94_4, p94_5, hv94⟩ := hQ94
        have N94 := Fr.app N89 Nq94
        have g_bb_94 : n0 ≤ bb_94 := Nat.le_trans f96 p94_0
        have q_bb_94 : Safe Z own_EL T89.vm T89.heap bb_94 := Safe.new p94_0
        have R97 : CHr Z own_EL s.vm h0 T94.vm T94.heap := R93.trans (hR94)
        have Y94 : T94.heap.size ≤ T94.heap.size := Nat.le_refl _
        subst hv94
        have f99 : Old Z n0 T94.heap := (f95.keep Kq94 all0)
        have f100 : Fld Z T94.heap b70 "com/example/wudaokou/wudaokou/model/SensitiveCall" "declaringType" "Ljava/lang/String;" (.ref bb_72) := ((p81_1.keep Kq89 nin0).keep Kq94 nin0)
        have f101 : Fld Z T94.heap b70 "com/example/wudaokou/wudaokou/model/SensitiveCall" "methodName" "Ljava/lang/String;" (.ref bb_77) := ((p81_2.keep Kq89 nin0).keep Kq94 nin0)
        have f102 : Exa Z T94.heap bb_72 "java/lang/String" := ((((p72_1.keep Kq77).keep Kq81).keep Kq89).keep Kq94)
        have f103 : Fld Z T94.heap bb_72 "java/lang/String" "value" "[B" (.ref tt_72) := ((((p72_3.keep Kq77 nin0).keep Kq81 (ninS (Ne.symm (Nat.ne_of_lt (Nat.lt_of_lt_of_le A70.lt p72_0))) nin0)).keep Kq89 nin0).keep Kq94 nin0)
        have f104 : Fld Z T94.heap bb_72 "java/lang/String" "coder" "B" (.int (0 : Int32)) := ((((p72_2.keep Kq77 nin0).keep Kq81 (ninS (Ne.symm (Nat.ne_of_lt (Nat.lt_of_lt_of_le A70.lt p72_0))) nin0)).keep Kq89 nin0).keep Kq94 nin0)
        have f105 : Arv Z T94.heap tt_72 kk_72 .byte (Int32.ofNat (own_st p0).length) (((own_st p0).map (fun c => c.toInt8.toInt32)).map Value.int) (.int (0 : Int32)) := ((((p72_4.keep Kq77 nin0).keep Kq81 (ninS (Ne.symm (Exa.neArv (A70.keep Kq72) p72_4 (own_k hw 33 rfl))) nin0)).keep Kq89 nin0).keep Kq94 nin0)
        have f106 : Exa Z T94.heap bb_77 "java/lang/String" := (((p77_1.keep Kq81).keep Kq89).keep Kq94)
        have f107 : Fld Z T94.heap bb_77 "java/lang/String" "value" "[B" (.ref tt_77) := (((p77_3.keep Kq81 (ninS (Ne.symm (Nat.ne_of_lt (Nat.lt_of_lt_of_le (A70.keep Kq72).lt p77_0))) nin0)).keep Kq89 nin0).keep Kq94 nin0)
        have f108 : Fld Z T94.heap bb_77 "java/lang/String" "coder" "B" (.int (0 : Int32)) := (((p77_2.keep Kq81 (ninS (Ne.symm (Nat.ne_of_lt (Nat.lt_of_lt_of_le (A70.keep Kq72).lt p77_0))) nin0)).keep Kq89 nin0).keep Kq94 nin0)
        have f109 : Arv Z T94.heap tt_77 kk_77 .byte (Int32.ofNat (own_st p1).length) (((own_st p1).map (fun c => c.toInt8.toInt32)).map Value.int) (.int (0 : Int32)) := (((p77_4.keep Kq81 (ninS (Ne.symm (Exa.neArv f82 p77_4 (own_k hw 33 rfl))) nin0)).keep Kq89 nin0).keep Kq94 nin0)
        have f110 : Exa Z T94.heap bb_89 "java/lang/String" := (p89_1.keep Kq94)
        have f111 : Fld Z T94.heap bb_89 "java/lang/String" "value" "[B" (.ref tt_89) := (p89_3.keep Kq94 nin0)
        have f112 : Fld Z T94.heap bb_89 "java/lang/String" "coder" "B" (.int (0 : Int32)) := (p89_2.keep Kq94 nin0)
        have f113 : Arv Z T94.heap tt_89 kk_89 .byte (Int32.ofNat (own_st rb).length) (((own_st rb).map (fun c => c.toInt8.toInt32)).map Value.int) (.int (0 : Int32)) := (p89_4.keep Kq94 nin0)
        have f114 : n0 ≤ T94.heap.size := (Nat.le_trans f96 Kq94.1)
        have f115 : Exa Z T94.heap b70 "com/example/wudaokou/wudaokou/model/SensitiveCall" := ((p81_0.keep Kq89).keep Kq94)
        obtain ⟨cq98, kq98, q98a, q98b, q98c⟩ := isOf hZ94 rfl f115
        obtain ⟨_, _, ⟨T98, L98, k98, n98⟩, -, X98, ⟨Lc98, hQ98, l98, y98, z98⟩, st98⟩ := Xr94.virtualBack hx (y := (⟨"com/example/wudaokou/wudaokou/model/SensitiveCall", "isNamedBy", "(Ljava/lang/String;Ljava/lang/String;)Z"⟩ : MethodName)) (z := (⟨"com/example/wudaokou/wudaokou/model/SensitiveCall", "isNamedBy", "(Ljava/lang/String;Ljava/lang/String;)Z"⟩ : MethodName)) hown94 (mvT hZ94 (own_k hw 52 rfl)) (mvT hZ94 (own_k hw 53 rfl)) (notFace_of_selects (args := #[]) (mvT hZ94 (own_k hw 55 rfl))) (mvT hZ94 (own_k hw 55 rfl)) (mvT hZ94 (own_k hw 54 rfl)) (by decide) (backOf (W := 0) (rmNb l Z a0 hw [] b70 bb_89 bb_94 bb_72 bb_77 G1 tt_72 kk_72 (Int32.ofNat (own_st p0).length) (((own_st p0).map (fun c => c.toInt8.toInt32)).map Value.int) (own_st p0) tt_77 kk_77 (Int32.ofNat (own_st p1).length) (((own_st p1).map (fun c => c.toInt8.toInt32)).map Value.int) (own_st p1) tt_89 kk_89 (Int32.ofNat (own_st rb).length) (((own_st rb).map (fun c => c.toInt8.toInt32)).map Value.int) (own_st rb) tt_94 kk_94 (Int32.ofNat (own_st nb).length) (((own_st nb).map (fun c => c.toInt8.toInt32)).map Value.int) (own_st nb) T94.heap n0 f114 hS (hG) f99 f100 f101 f102 f103 f104 f105 ((own_stA p0)) ((own_stC p0)) ((own_stL p0)) f106 f107 f108 f109 ((own_stA p1)) ((own_stC p1)) ((own_stL p1)) f110 f111 f112 f113 ((own_stA rb)) ((own_stC rb)) ((own_stL rb)) p94_1 p94_3 p94_2 p94_4 ((own_stA nb)) ((own_stC nb)) ((own_stL nb))) hZ94 (own_k hw 56 rfl) (own_k hw 34 rfl) (by decide) (by decide)) q98a q98c (g := (mkF m 93 #[.val (.int p0), .val (.int p1), .val (.int p2), .val (.int p3), .val (.int p4), .val (.int rb), .val (.int nb), .val (.ref rr_11), .val .null, .val (.ref b70), .unset, .unset] [(.ref bb_94), (.ref bb_89), (.ref b70)])) rfl (by rw [hml]; rfl) (Steps.refl _) (argsL := [(.ref bb_89), (.ref bb_94)]) (rest := []) (lenOf own_pd_7 rfl) rfl (by show 2 * 0 + _ ≤ _; exact Nat.le_of_eq rfl) (hb hby at_93) (fun _ _ => ⟨rfl, rfl, (by decide : 17 + 0 ≤ _), (by decide : 44 + 0 ≤ _)⟩)
        dsimp only [Pt.U, Pt.locs, Pt.cells, Pt.slots] at X98 l98 y98 z98 st98 hQ98
        subst l98 y98 z98
        obtain ⟨Nq98, eh98, hv98⟩ := hQ98
        have N98 := Fr.app N94 Nq98
        have pre116 : ∀ t, Steps p.tables e below (T94.setTop (mkF m 93 #[.val (.int p0), .val (.int p1), .val (.int p2), .val (.int p3), .val (.int p4), .val (.int rb), .val (.int nb), .val (.ref rr_11), .val .null, .val (.ref b70), .unset, .unset] [(.ref bb_94), (.ref bb_89), (.ref b70)])) t → Steps p.tables e below (s₁.setTop (entryFrame m #[(.int p0), (.int p1), (.int p2), (.int p3), (.int p4)] maxLocals)) t := fun t kt => pre12 t (by
          show Steps p.tables e below (T11.setTop (mkF m 44 #[.val (.int p0), .val (.int p1), .val (.int p2), .val (.int p3), .val (.int p4), .val (.int rb), .val (.int nb), .val (.ref rr_11), .unset, .unset, .unset, .unset] [(.int (p4 &&& (16 : Int32)))])) _
          refine XS.ifNo X11.here hx rfl (hb hby at_44) rfl ((if0 _ _).trans (feq hcx13).1) ?_
          show Steps p.tables e below (T11.setTop (mkF m 47 #[.val (.int p0), .val (.int p1), .val (.int p2), .val (.int p3), .val (.int p4), .val (.int rb), .val (.int nb), .val (.ref rr_11), .unset, .unset, .unset, .unset] [])) _
          refine XS.aconstNull X11.here hx rfl (hb hby at_47) ?_
          show Steps p.tables e below (T11.setTop (mkF m 48 #[.val (.int p0), .val (.int p1), .val (.int p2), .val (.int p3), .val (.int p4), .val (.int rb), .val (.int nb), .val (.ref rr_11), .unset, .unset, .unset, .unset] [.null])) _
          refine XS.goto X11.here hx rfl (pc0 := 48) (pc' := 58) rfl (hb hby at_48) (by decide) (by decide) ?_
          show Steps p.tables e below (T11.setTop (mkF m 58 #[.val (.int p0), .val (.int p1), .val (.int p2), .val (.int p3), .val (.int p4), .val (.int rb), .val (.int nb), .val (.ref rr_11), .unset, .unset, .unset, .unset] [.null])) _
          refine XS.astore X11.here hx rfl (hb hby at_58) rfl rfl (l' := #[.val (.int p0), .val (.int p1), .val (.int p2), .val (.int p3), .val (.int p4), .val (.int rb), .val (.int nb), .val (.ref rr_11), .val .null, .unset, .unset, .unset]) rfl ?_
          show Steps p.tables e below (T11.setTop (mkF m 60 #[.val (.int p0), .val (.int p1), .val (.int p2), .val (.int p3), .val (.int p4), .val (.int rb), .val (.int nb), .val (.ref rr_11), .val .null, .unset, .unset, .unset] [])) _
          refine st70 _ ?_
          show Steps p.tables e below (T70.setTop (mkF m 63 #[.val (.int p0), .val (.int p1), .val (.int p2), .val (.int p3), .val (.int p4), .val (.int rb), .val (.int nb), .val (.ref rr_11), .val .null, .unset, .unset, .unset] [(.ref b70)])) _
          refine XS.dup X70.here hx rfl (hb hby at_63) rfl rfl ?_
          show Steps p.tables e below (T70.setTop (mkF m 64 #[.val (.int p0), .val (.int p1), .val (.int p2), .val (.int p3), .val (.int p4), .val (.int rb), .val (.int nb), .val (.ref rr_11), .val .null, .unset, .unset, .unset] [(.ref b70), (.ref b70)])) _
          refine XS.aload X70.here hx rfl (hb hby at_64) rfl rfl ?_
          show Steps p.tables e below (T70.setTop (mkF m 66 #[.val (.int p0), .val (.int p1), .val (.int p2), .val (.int p3), .val (.int p4), .val (.int rb), .val (.int nb), .val (.ref rr_11), .val .null, .unset, .unset, .unset] [(.ref rr_11), (.ref b70), (.ref b70)])) _
          refine XS.iloadN X70.here hx rfl (hb hby at_66) rfl ?_
          show Steps p.tables e below (T70.setTop (mkF m 67 #[.val (.int p0), .val (.int p1), .val (.int p2), .val (.int p3), .val (.int p4), .val (.int rb), .val (.int nb), .val (.ref rr_11), .val .null, .unset, .unset, .unset] [(.int p0), (.ref rr_11), (.ref b70), (.ref b70)])) _
          refine st72.trans ?_
          show Steps p.tables e below (T72.setTop (mkF m 70 #[.val (.int p0), .val (.int p1), .val (.int p2), .val (.int p3), .val (.int p4), .val (.int rb), .val (.int nb), .val (.ref rr_11), .val .null, .unset, .unset, .unset] [(.ref bb_72), (.ref rr_11), (.ref b70), (.ref b70)])) _
          refine XS.iloadN Xr72.here hx rfl (hb hby at_70) rfl ?_
          show Steps p.tables e below (T72.setTop (mkF m 71 #[.val (.int p0), .val (.int p1), .val (.int p2), .val (.int p3), .val (.int p4), .val (.int rb), .val (.int nb), .val (.ref rr_11), .val .null, .unset, .unset, .unset] [(.int p1), (.ref bb_72), (.ref rr_11), (.ref b70), (.ref b70)])) _
          refine st77.trans ?_
          show Steps p.tables e below (T77.setTop (mkF m 74 #[.val (.int p0), .val (.int p1), .val (.int p2), .val (.int p3), .val (.int p4), .val (.int rb), .val (.int nb), .val (.ref rr_11), .val .null, .unset, .unset, .unset] [(.ref bb_77), (.ref bb_72), (.ref rr_11), (.ref b70), (.ref b70)])) _
          refine XS.aload Xr77.here hx rfl (hb hby at_74) rfl rfl ?_
          show Steps p.tables e below (T77.setTop (mkF m 76 #[.val (.int p0), .val (.int p1), .val (.int p2), .val (.int p3), .val (.int p4), .val (.int rb), .val (.int nb), .val (.ref rr_11), .val .null, .unset, .unset, .unset] [.null, (.ref bb_77), (.ref bb_72), (.ref rr_11), (.ref b70), (.ref b70)])) _
          refine st81.trans ?_
          show Steps p.tables e below (T81.setTop (mkF m 79 #[.val (.int p0), .val (.int p1), .val (.int p2), .val (.int p3), .val (.int p4), .val (.int rb), .val (.int nb), .val (.ref rr_11), .val .null, .unset, .unset, .unset] [(.ref b70)])) _
          refine XS.astore X81.here hx rfl (hb hby at_79) rfl rfl (l' := #[.val (.int p0), .val (.int p1), .val (.int p2), .val (.int p3), .val (.int p4), .val (.int rb), .val (.int nb), .val (.ref rr_11), .val .null, .val (.ref b70), .unset, .unset]) rfl ?_
          show Steps p.tables e below (T81.setTop (mkF m 81 #[.val (.int p0), .val (.int p1), .val (.int p2), .val (.int p3), .val (.int p4), .val (.int rb), .val (.int nb), .val (.ref rr_11), .val .null, .val (.ref b70), .unset, .unset] [])) _
          refine XS.aload X81.here hx rfl (hb hby at_81) rfl rfl ?_
          show Steps p.tables e below (T81.setTop (mkF m 83 #[.val (.int p0), .val (.int p1), .val (.int p2), .val (.int p3), .val (.int p4), .val (.int rb), .val (.int nb), .val (.ref rr_11), .val .null, .val (.ref b70), .unset, .unset] [(.ref b70)])) _
          refine XS.iload X81.here hx rfl (hb hby at_83) rfl ?_
          show Steps p.tables e below (T81.setTop (mkF m 85 #[.val (.int p0), .val (.int p1), .val (.int p2), .val (.int p3), .val (.int p4), .val (.int rb), .val (.int nb), .val (.ref rr_11), .val .null, .val (.ref b70), .unset, .unset] [(.int rb), (.ref b70)])) _
          refine st89.trans ?_
          show Steps p.tables e below (T89.setTop (mkF m 88 #[.val (.int p0), .val (.int p1), .val (.int p2), .val (.int p3), .val (.int p4), .val (.int rb), .val (.int nb), .val (.ref rr_11), .val .null, .val (.ref b70), .unset, .unset] [(.ref bb_89), (.ref b70)])) _
          refine XS.iload Xr89.here hx rfl (hb hby at_88) rfl ?_
          show Steps p.tables e below (T89.setTop (mkF m 90 #[.val (.int p0), .val (.int p1), .val (.int p2), .val (.int p3), .val (.int p4), .val (.int rb), .val (.int nb), .val (.ref rr_11), .val .null, .val (.ref b70), .unset, .unset] [(.int nb), (.ref bb_89), (.ref b70)])) _
          refine st94.trans ?_
          exact kt)
        rcases hv98 with ⟨hv98, hd98_0⟩ | ⟨hv98, hd98_0⟩
        · subst hv98
          obtain ⟨_, _, ⟨T117, L117, k117, n117⟩, -, X117, ⟨Lc117, hQ117, l117, y117, z117⟩, st117⟩ := Jvm.LawKit.callS X98 hx (y := (⟨"com/example/wudaokou/wudaokou/model/SensitiveCallIsNamedByPinLaw", "same", "(II)Z"⟩ : MethodName)) hown94 (mvT hZ94 (own_k hw 68 rfl)) (mvT hZ94 (own_k hw 69 rfl)) (mvT hZ94 (own_k hw 2 rfl)) (mvT hZ94 (own_k hw 70 rfl)) (by decide) (backOf (W := 0) (rmSame l Z a0 hw [] p0 rb T94.heap n0 f114 ) hZ94 (own_k hw 70 rfl) (own_k hw 2 rfl) (by decide) (by decide)) (g := (mkF m 101 #[.val (.int p0), .val (.int p1), .val (.int p2), .val (.int p3), .val (.int p4), .val (.int rb), .val (.int nb), .val (.ref rr_11), .val .null, .val (.ref b70), .val (.int (1 : Int32)), .unset] [(.int rb), (.int p0)])) rfl (by rw [hml]; rfl) (argsL := [(.int p0), (.int rb)]) (rest := []) (lenOf own_pd_8 rfl) rfl (by show 2 * 0 + _ ≤ _; exact Nat.le_of_eq rfl) (hb hby at_101) (fun _ _ => ⟨rfl, eh98, (by decide : 17 + 0 ≤ _), (by decide : 44 + 0 ≤ _)⟩)
          dsimp only [Pt.U, Pt.locs, Pt.cells, Pt.slots] at X117 l117 y117 z117 st117 hQ117
          subst l117 y117 z117
          obtain ⟨Nq117, eh117, hv117⟩ := hQ117
          have N117 := Fr.app N98 Nq117
          rcases hv117 with ⟨hv117, hd117_0⟩ | ⟨hv117, hd117_0⟩
          · subst hv117
            obtain ⟨_, _, ⟨T118, L118, k118, n118⟩, -, X118, ⟨Lc118, hQ118, l118, y118, z118⟩, st118⟩ := Jvm.LawKit.callS X117 hx (y := (⟨"com/example/wudaokou/wudaokou/model/SensitiveCallIsNamedByPinLaw", "same", "(II)Z"⟩ : MethodName)) hown94 (mvT hZ94 (own_k hw 68 rfl)) (mvT hZ94 (own_k hw 69 rfl)) (mvT hZ94 (own_k hw 2 rfl)) (mvT hZ94 (own_k hw 70 rfl)) (by decide) (backOf (W := 0) (rmSame l Z a0 hw [] p1 nb T94.heap n0 f114 ) hZ94 (own_k hw 70 rfl) (own_k hw 2 rfl) (by decide) (by decide)) (g := (mkF m 110 #[.val (.int p0), .val (.int p1), .val (.int p2), .val (.int p3), .val (.int p4), .val (.int rb), .val (.int nb), .val (.ref rr_11), .val .null, .val (.ref b70), .val (.int (1 : Int32)), .unset] [(.int nb), (.int p1)])) rfl (by rw [hml]; rfl) (argsL := [(.int p1), (.int nb)]) (rest := []) (lenOf own_pd_8 rfl) rfl (by show 2 * 0 + _ ≤ _; exact Nat.le_of_eq rfl) (hb hby at_110) (fun _ _ => ⟨rfl, eh117, (by decide : 17 + 0 ≤ _), (by decide : 44 + 0 ≤ _)⟩)
            dsimp only [Pt.U, Pt.locs, Pt.cells, Pt.slots] at X118 l118 y118 z118 st118 hQ118
            subst l118 y118 z118
            obtain ⟨Nq118, eh118, hv118⟩ := hQ118
            have N118 := Fr.app N117 Nq118
            rcases hv118 with ⟨hv118, hd118_0⟩ | ⟨hv118, hd118_0⟩
            · subst hv118
              have hRe := R97.trans (CHv.at X118 hZ94 hEL R97.1)
              rw [← eh118] at hRe
              rw [← hh] at hRe
              obtain ⟨fs, hr, hrun, hended, hend⟩ := X118.leaveW hS94 (by rw [eh118]; exact Y94) (v := (some (.int (1 : Int32)))) (fun h => by rw [Bd.returns] at h; cases h)
              refine ⟨_, _, pre116 _ ?_, hrun, hended, _, _, rfl, ?_, hRe, hend.1, hend.2.1, hend.2.2.1, hend.2.2.2.mono (by decide) (by decide)⟩
              · show Steps p.tables e below (T94.setTop (mkF m 93 #[.val (.int p0), .val (.int p1), .val (.int p2), .val (.int p3), .val (.int p4), .val (.int rb), .val (.int nb), .val (.ref rr_11), .val .null, .val (.ref b70), .unset, .unset] [(.ref bb_94), (.ref bb_89), (.ref b70)])) _
                refine st98.trans ?_
                show Steps p.tables e below (T98.setTop (mkF m 96 #[.val (.int p0), .val (.int p1), .val (.int p2), .val (.int p3), .val (.int p4), .val (.int rb), .val (.int nb), .val (.ref rr_11), .val .null, .val (.ref b70), .unset, .unset] [(.int (1 : Int32))])) _
                refine XS.istore X98.here hx rfl (hb hby at_96) rfl (l' := #[.val (.int p0), .val (.int p1), .val (.int p2), .val (.int p3), .val (.int p4), .val (.int rb), .val (.int nb), .val (.ref rr_11), .val .null, .val (.ref b70), .val (.int (1 : Int32)), .unset]) rfl ?_
                show Steps p.tables e below (T98.setTop (mkF m 98 #[.val (.int p0), .val (.int p1), .val (.int p2), .val (.int p3), .val (.int p4), .val (.int rb), .val (.int nb), .val (.ref rr_11), .val .null, .val (.ref b70), .val (.int (1 : Int32)), .unset] [])) _
                refine XS.iloadN X98.here hx rfl (hb hby at_98) rfl ?_
                show Steps p.tables e below (T98.setTop (mkF m 99 #[.val (.int p0), .val (.int p1), .val (.int p2), .val (.int p3), .val (.int p4), .val (.int rb), .val (.int nb), .val (.ref rr_11), .val .null, .val (.ref b70), .val (.int (1 : Int32)), .unset] [(.int p0)])) _
                refine XS.iload X98.here hx rfl (hb hby at_99) rfl ?_
                show Steps p.tables e below (T98.setTop (mkF m 101 #[.val (.int p0), .val (.int p1), .val (.int p2), .val (.int p3), .val (.int p4), .val (.int rb), .val (.int nb), .val (.ref rr_11), .val .null, .val (.ref b70), .val (.int (1 : Int32)), .unset] [(.int rb), (.int p0)])) _
                refine st117 _ ?_
                show Steps p.tables e below (T117.setTop (mkF m 104 #[.val (.int p0), .val (.int p1), .val (.int p2), .val (.int p3), .val (.int p4), .val (.int rb), .val (.int nb), .val (.ref rr_11), .val .null, .val (.ref b70), .val (.int (1 : Int32)), .unset] [(.int (1 : Int32))])) _
                refine XS.ifNo X117.here hx rfl (hb hby at_104) rfl (by decide) ?_
                show Steps p.tables e below (T117.setTop (mkF m 107 #[.val (.int p0), .val (.int p1), .val (.int p2), .val (.int p3), .val (.int p4), .val (.int rb), .val (.int nb), .val (.ref rr_11), .val .null, .val (.ref b70), .val (.int (1 : Int32)), .unset] [])) _
                refine XS.iloadN X117.here hx rfl (hb hby at_107) rfl ?_
                show Steps p.tables e below (T117.setTop (mkF m 108 #[.val (.int p0), .val (.int p1), .val (.int p2), .val (.int p3), .val (.int p4), .val (.int rb), .val (.int nb), .val (.ref rr_11), .val .null, .val (.ref b70), .val (.int (1 : Int32)), .unset] [(.int p1)])) _
                refine XS.iload X117.here hx rfl (hb hby at_108) rfl ?_
                show Steps p.tables e below (T117.setTop (mkF m 110 #[.val (.int p0), .val (.int p1), .val (.int p2), .val (.int p3), .val (.int p4), .val (.int rb), .val (.int nb), .val (.ref rr_11), .val .null, .val (.ref b70), .val (.int (1 : Int32)), .unset] [(.int nb), (.int p1)])) _
                refine st118 _ ?_
                show Steps p.tables e below (T118.setTop (mkF m 113 #[.val (.int p0), .val (.int p1), .val (.int p2), .val (.int p3), .val (.int p4), .val (.int rb), .val (.int nb), .val (.ref rr_11), .val .null, .val (.ref b70), .val (.int (1 : Int32)), .unset] [(.int (1 : Int32))])) _
                refine XS.ifNo X118.here hx rfl (hb hby at_113) rfl (by decide) ?_
                show Steps p.tables e below (T118.setTop (mkF m 116 #[.val (.int p0), .val (.int p1), .val (.int p2), .val (.int p3), .val (.int p4), .val (.int rb), .val (.int nb), .val (.ref rr_11), .val .null, .val (.ref b70), .val (.int (1 : Int32)), .unset] [])) _
                refine XS.iconst X118.here hx rfl (hb hby at_116) ?_
                show Steps p.tables e below (T118.setTop (mkF m 117 #[.val (.int p0), .val (.int p1), .val (.int p2), .val (.int p3), .val (.int p4), .val (.int rb), .val (.int nb), .val (.ref rr_11), .val .null, .val (.ref b70), .val (.int (1 : Int32)), .unset] [(.int (1 : Int32))])) _
                refine XS.goto X118.here hx rfl (pc0 := 117) (pc' := 121) rfl (hb hby at_117) (by decide) (by decide) ?_
                show Steps p.tables e below (T118.setTop (mkF m 121 #[.val (.int p0), .val (.int p1), .val (.int p2), .val (.int p3), .val (.int p4), .val (.int rb), .val (.int nb), .val (.ref rr_11), .val .null, .val (.ref b70), .val (.int (1 : Int32)), .unset] [(.int (1 : Int32))])) _
                refine XS.istore X118.here hx rfl (hb hby at_121) rfl (l' := #[.val (.int p0), .val (.int p1), .val (.int p2), .val (.int p3), .val (.int p4), .val (.int rb), .val (.int nb), .val (.ref rr_11), .val .null, .val (.ref b70), .val (.int (1 : Int32)), .val (.int (1 : Int32))]) rfl ?_
                show Steps p.tables e below (T118.setTop (mkF m 123 #[.val (.int p0), .val (.int p1), .val (.int p2), .val (.int p3), .val (.int p4), .val (.int rb), .val (.int nb), .val (.ref rr_11), .val .null, .val (.ref b70), .val (.int (1 : Int32)), .val (.int (1 : Int32))] [])) _
                refine XS.iload X118.here hx rfl (hb hby at_123) rfl ?_
                show Steps p.tables e below (T118.setTop (mkF m 125 #[.val (.int p0), .val (.int p1), .val (.int p2), .val (.int p3), .val (.int p4), .val (.int rb), .val (.int nb), .val (.ref rr_11), .val .null, .val (.ref b70), .val (.int (1 : Int32)), .val (.int (1 : Int32))] [(.int (1 : Int32))])) _
                refine XS.iload X118.here hx rfl (hb hby at_125) rfl ?_
                show Steps p.tables e below (T118.setTop (mkF m 127 #[.val (.int p0), .val (.int p1), .val (.int p2), .val (.int p3), .val (.int p4), .val (.int rb), .val (.int nb), .val (.ref rr_11), .val .null, .val (.ref b70), .val (.int (1 : Int32)), .val (.int (1 : Int32))] [(.int (1 : Int32)), (.int (1 : Int32))])) _
                refine XS.icmpNo X118.here hx rfl (hb hby at_127) rfl (by decide) ?_
                show Steps p.tables e below (T118.setTop (mkF m 130 #[.val (.int p0), .val (.int p1), .val (.int p2), .val (.int p3), .val (.int p4), .val (.int rb), .val (.int nb), .val (.ref rr_11), .val .null, .val (.ref b70), .val (.int (1 : Int32)), .val (.int (1 : Int32))] [])) _
                refine XS.iconst X118.here hx rfl (hb hby at_130) ?_
                show Steps p.tables e below (T118.setTop (mkF m 131 #[.val (.int p0), .val (.int p1), .val (.int p2), .val (.int p3), .val (.int p4), .val (.int rb), .val (.int nb), .val (.ref rr_11), .val .null, .val (.ref b70), .val (.int (1 : Int32)), .val (.int (1 : Int32))] [(.int (1 : Int32))])) _
                refine XS.goto X118.here hx rfl (pc0 := 131) (pc' := 135) rfl (hb hby at_131) (by decide) (by decide) ?_
                show Steps p.tables e below (T118.setTop (mkF m 135 #[.val (.int p0), .val (.int p1), .val (.int p2), .val (.int p3), .val (.int p4), .val (.int rb), .val (.int nb), .val (.ref rr_11), .val .null, .val (.ref b70), .val (.int (1 : Int32)), .val (.int (1 : Int32))] [(.int (1 : Int32))])) _
                exact retN X118 hx (t := .boolean) Bd.returns (by simp) (hb hby at_135) hr
              · show Q0 Z p0 p1 p2 p3 p4 G1 u0 u1 u2 u3 h0 n0 _ T118.heap _
                rw [eh118]
                exact ⟨N118, rfl⟩
            · subst hv118
              exact absurd hd98_0.2 hd118_0
          · subst hv117
            exact absurd hd98_0.1 hd117_0
        · subst hv98
          obtain ⟨_, _, ⟨T119, L119, k119, n119⟩, -, X119, ⟨Lc119, hQ119, l119, y119, z119⟩, st119⟩ := Jvm.LawKit.callS X98 hx (y := (⟨"com/example/wudaokou/wudaokou/model/SensitiveCallIsNamedByPinLaw", "same", "(II)Z"⟩ : MethodName)) hown94 (mvT hZ94 (own_k hw 68 rfl)) (mvT hZ94 (own_k hw 69 rfl)) (mvT hZ94 (own_k hw 2 rfl)) (mvT hZ94 (own_k hw 70 rfl)) (by decide) (backOf (W := 0) (rmSame l Z a0 hw [] p0 rb T94.heap n0 f114 ) hZ94 (own_k hw 70 rfl) (own_k hw 2 rfl) (by decide) (by decide)) (g := (mkF m 101 #[.val (.int p0), .val (.int p1), .val (.int p2), .val (.int p3), .val (.int p4), .val (.int rb), .val (.int nb), .val (.ref rr_11), .val .null, .val (.ref b70), .val (.int (0 : Int32)), .unset] [(.int rb), (.int p0)])) rfl (by rw [hml]; rfl) (argsL := [(.int p0), (.int rb)]) (rest := []) (lenOf own_pd_8 rfl) rfl (by show 2 * 0 + _ ≤ _; exact Nat.le_of_eq rfl) (hb hby at_101) (fun _ _ => ⟨rfl, eh98, (by decide : 17 + 0 ≤ _), (by decide : 44 + 0 ≤ _)⟩)
          dsimp only [Pt.U, Pt.locs, Pt.cells, Pt.slots] at X119 l119 y119 z119 st119 hQ119
          subst l119 y119 z119
          obtain ⟨Nq119, eh119, hv119⟩ := hQ119
          have N119 := Fr.app N98 Nq119
          have pre120 : ∀ t, Steps p.tables e below (T98.setTop (mkF m 101 #[.val (.int p0), .val (.int p1), .val (.int p2), .val (.int p3), .val (.int p4), .val (.int rb), .val (.int nb), .val (.ref rr_11), .val .null, .val (.ref b70), .val (.int (0 : Int32)), .unset] [(.int rb), (.int p0)])) t → Steps p.tables e below (s₁.setTop (entryFrame m #[(.int p0), (.int p1), (.int p2), (.int p3), (.int p4)] maxLocals)) t := fun t kt => pre116 t (by
            show Steps p.tables e below (T94.setTop (mkF m 93 #[.val (.int p0), .val (.int p1), .val (.int p2), .val (.int p3), .val (.int p4), .val (.int rb), .val (.int nb), .val (.ref rr_11), .val .null, .val (.ref b70), .unset, .unset] [(.ref bb_94), (.ref bb_89), (.ref b70)])) _
            refine st98.trans ?_
            show Steps p.tables e below (T98.setTop (mkF m 96 #[.val (.int p0), .val (.int p1), .val (.int p2), .val (.int p3), .val (.int p4), .val (.int rb), .val (.int nb), .val (.ref rr_11), .val .null, .val (.ref b70), .unset, .unset] [(.int (0 : Int32))])) _
            refine XS.istore X98.here hx rfl (hb hby at_96) rfl (l' := #[.val (.int p0), .val (.int p1), .val (.int p2), .val (.int p3), .val (.int p4), .val (.int rb), .val (.int nb), .val (.ref rr_11), .val .null, .val (.ref b70), .val (.int (0 : Int32)), .unset]) rfl ?_
            show Steps p.tables e below (T98.setTop (mkF m 98 #[.val (.int p0), .val (.int p1), .val (.int p2), .val (.int p3), .val (.int p4), .val (.int rb), .val (.int nb), .val (.ref rr_11), .val .null, .val (.ref b70), .val (.int (0 : Int32)), .unset] [])) _
            refine XS.iloadN X98.here hx rfl (hb hby at_98) rfl ?_
            show Steps p.tables e below (T98.setTop (mkF m 99 #[.val (.int p0), .val (.int p1), .val (.int p2), .val (.int p3), .val (.int p4), .val (.int rb), .val (.int nb), .val (.ref rr_11), .val .null, .val (.ref b70), .val (.int (0 : Int32)), .unset] [(.int p0)])) _
            refine XS.iload X98.here hx rfl (hb hby at_99) rfl ?_
            exact kt)
          rcases hv119 with ⟨hv119, hd119_0⟩ | ⟨hv119, hd119_0⟩
          · subst hv119
            obtain ⟨_, _, ⟨T121, L121, k121, n121⟩, -, X121, ⟨Lc121, hQ121, l121, y121, z121⟩, st121⟩ := Jvm.LawKit.callS X119 hx (y := (⟨"com/example/wudaokou/wudaokou/model/SensitiveCallIsNamedByPinLaw", "same", "(II)Z"⟩ : MethodName)) hown94 (mvT hZ94 (own_k hw 68 rfl)) (mvT hZ94 (own_k hw 69 rfl)) (mvT hZ94 (own_k hw 2 rfl)) (mvT hZ94 (own_k hw 70 rfl)) (by decide) (backOf (W := 0) (rmSame l Z a0 hw [] p1 nb T94.heap n0 f114 ) hZ94 (own_k hw 70 rfl) (own_k hw 2 rfl) (by decide) (by decide)) (g := (mkF m 110 #[.val (.int p0), .val (.int p1), .val (.int p2), .val (.int p3), .val (.int p4), .val (.int rb), .val (.int nb), .val (.ref rr_11), .val .null, .val (.ref b70), .val (.int (0 : Int32)), .unset] [(.int nb), (.int p1)])) rfl (by rw [hml]; rfl) (argsL := [(.int p1), (.int nb)]) (rest := []) (lenOf own_pd_8 rfl) rfl (by show 2 * 0 + _ ≤ _; exact Nat.le_of_eq rfl) (hb hby at_110) (fun _ _ => ⟨rfl, eh119, (by decide : 17 + 0 ≤ _), (by decide : 44 + 0 ≤ _)⟩)
            dsimp only [Pt.U, Pt.locs, Pt.cells, Pt.slots] at X121 l121 y121 z121 st121 hQ121
            subst l121 y121 z121
            obtain ⟨Nq121, eh121, hv121⟩ := hQ121
            have N121 := Fr.app N119 Nq121
            have pre122 : ∀ t, Steps p.tables e below (T119.setTop (mkF m 110 #[.val (.int p0), .val (.int p1), .val (.int p2), .val (.int p3), .val (.int p4), .val (.int rb), .val (.int nb), .val (.ref rr_11), .val .null, .val (.ref b70), .val (.int (0 : Int32)), .unset] [(.int nb), (.int p1)])) t → Steps p.tables e below (s₁.setTop (entryFrame m #[(.int p0), (.int p1), (.int p2), (.int p3), (.int p4)] maxLocals)) t := fun t kt => pre120 t (by
              show Steps p.tables e below (T98.setTop (mkF m 101 #[.val (.int p0), .val (.int p1), .val (.int p2), .val (.int p3), .val (.int p4), .val (.int rb), .val (.int nb), .val (.ref rr_11), .val .null, .val (.ref b70), .val (.int (0 : Int32)), .unset] [(.int rb), (.int p0)])) _
              refine st119 _ ?_
              show Steps p.tables e below (T119.setTop (mkF m 104 #[.val (.int p0), .val (.int p1), .val (.int p2), .val (.int p3), .val (.int p4), .val (.int rb), .val (.int nb), .val (.ref rr_11), .val .null, .val (.ref b70), .val (.int (0 : Int32)), .unset] [(.int (1 : Int32))])) _
              refine XS.ifNo X119.here hx rfl (hb hby at_104) rfl (by decide) ?_
              show Steps p.tables e below (T119.setTop (mkF m 107 #[.val (.int p0), .val (.int p1), .val (.int p2), .val (.int p3), .val (.int p4), .val (.int rb), .val (.int nb), .val (.ref rr_11), .val .null, .val (.ref b70), .val (.int (0 : Int32)), .unset] [])) _
              refine XS.iloadN X119.here hx rfl (hb hby at_107) rfl ?_
              show Steps p.tables e below (T119.setTop (mkF m 108 #[.val (.int p0), .val (.int p1), .val (.int p2), .val (.int p3), .val (.int p4), .val (.int rb), .val (.int nb), .val (.ref rr_11), .val .null, .val (.ref b70), .val (.int (0 : Int32)), .unset] [(.int p1)])) _
              refine XS.iload X119.here hx rfl (hb hby at_108) rfl ?_
              exact kt)
            rcases hv121 with ⟨hv121, hd121_0⟩ | ⟨hv121, hd121_0⟩
            · subst hv121
              exact absurd ⟨hd119_0, hd121_0⟩ hd98_0
            · subst hv121
              have hRe := R97.trans (CHv.at X121 hZ94 hEL R97.1)
              rw [← eh121] at hRe
              rw [← hh] at hRe
              obtain ⟨fs, hr, hrun, hended, hend⟩ := X121.leaveW hS94 (by rw [eh121]; exact Y94) (v := (some (.int (1 : Int32)))) (fun h => by rw [Bd.returns] at h; cases h)
              refine ⟨_, _, pre122 _ ?_, hrun, hended, _, _, rfl, ?_, hRe, hend.1, hend.2.1, hend.2.2.1, hend.2.2.2.mono (by decide) (by decide)⟩
              · show Steps p.tables e below (T119.setTop (mkF m 110 #[.val (.int p0), .val (.int p1), .val (.int p2), .val (.int p3), .val (.int p4), .val (.int rb), .val (.int nb), .val (.ref rr_11), .val .null, .val (.ref b70), .val (.int (0 : Int32)), .unset] [(.int nb), (.int p1)])) _
                refine st121 _ ?_
                show Steps p.tables e below (T121.setTop (mkF m 113 #[.val (.int p0), .val (.int p1), .val (.int p2), .val (.int p3), .val (.int p4), .val (.int rb), .val (.int nb), .val (.ref rr_11), .val .null, .val (.ref b70), .val (.int (0 : Int32)), .unset] [(.int (0 : Int32))])) _
                refine XS.ifYes X121.here hx rfl (pc0 := 113) (pc' := 120) rfl (hb hby at_113) rfl (by decide) (by decide) (by decide) ?_
                show Steps p.tables e below (T121.setTop (mkF m 120 #[.val (.int p0), .val (.int p1), .val (.int p2), .val (.int p3), .val (.int p4), .val (.int rb), .val (.int nb), .val (.ref rr_11), .val .null, .val (.ref b70), .val (.int (0 : Int32)), .unset] [])) _
                refine XS.iconst X121.here hx rfl (hb hby at_120) ?_
                show Steps p.tables e below (T121.setTop (mkF m 121 #[.val (.int p0), .val (.int p1), .val (.int p2), .val (.int p3), .val (.int p4), .val (.int rb), .val (.int nb), .val (.ref rr_11), .val .null, .val (.ref b70), .val (.int (0 : Int32)), .unset] [(.int (0 : Int32))])) _
                refine XS.istore X121.here hx rfl (hb hby at_121) rfl (l' := #[.val (.int p0), .val (.int p1), .val (.int p2), .val (.int p3), .val (.int p4), .val (.int rb), .val (.int nb), .val (.ref rr_11), .val .null, .val (.ref b70), .val (.int (0 : Int32)), .val (.int (0 : Int32))]) rfl ?_
                show Steps p.tables e below (T121.setTop (mkF m 123 #[.val (.int p0), .val (.int p1), .val (.int p2), .val (.int p3), .val (.int p4), .val (.int rb), .val (.int nb), .val (.ref rr_11), .val .null, .val (.ref b70), .val (.int (0 : Int32)), .val (.int (0 : Int32))] [])) _
                refine XS.iload X121.here hx rfl (hb hby at_123) rfl ?_
                show Steps p.tables e below (T121.setTop (mkF m 125 #[.val (.int p0), .val (.int p1), .val (.int p2), .val (.int p3), .val (.int p4), .val (.int rb), .val (.int nb), .val (.ref rr_11), .val .null, .val (.ref b70), .val (.int (0 : Int32)), .val (.int (0 : Int32))] [(.int (0 : Int32))])) _
                refine XS.iload X121.here hx rfl (hb hby at_125) rfl ?_
                show Steps p.tables e below (T121.setTop (mkF m 127 #[.val (.int p0), .val (.int p1), .val (.int p2), .val (.int p3), .val (.int p4), .val (.int rb), .val (.int nb), .val (.ref rr_11), .val .null, .val (.ref b70), .val (.int (0 : Int32)), .val (.int (0 : Int32))] [(.int (0 : Int32)), (.int (0 : Int32))])) _
                refine XS.icmpNo X121.here hx rfl (hb hby at_127) rfl (by decide) ?_
                show Steps p.tables e below (T121.setTop (mkF m 130 #[.val (.int p0), .val (.int p1), .val (.int p2), .val (.int p3), .val (.int p4), .val (.int rb), .val (.int nb), .val (.ref rr_11), .val .null, .val (.ref b70), .val (.int (0 : Int32)), .val (.int (0 : Int32))] [])) _
                refine XS.iconst X121.here hx rfl (hb hby at_130) ?_
                show Steps p.tables e below (T121.setTop (mkF m 131 #[.val (.int p0), .val (.int p1), .val (.int p2), .val (.int p3), .val (.int p4), .val (.int rb), .val (.int nb), .val (.ref rr_11), .val .null, .val (.ref b70), .val (.int (0 : Int32)), .val (.int (0 : Int32))] [(.int (1 : Int32))])) _
                refine XS.goto X121.here hx rfl (pc0 := 131) (pc' := 135) rfl (hb hby at_131) (by decide) (by decide) ?_
                show Steps p.tables e below (T121.setTop (mkF m 135 #[.val (.int p0), .val (.int p1), .val (.int p2), .val (.int p3), .val (.int p4), .val (.int rb), .val (.int nb), .val (.ref rr_11), .val .null, .val (.ref b70), .val (.int (0 : Int32)), .val (.int (0 : Int32))] [(.int (1 : Int32))])) _
                exact retN X121 hx (t := .boolean) Bd.returns (by simp) (hb hby at_135) hr
              · show Q0 Z p0 p1 p2 p3 p4 G1 u0 u1 u2 u3 h0 n0 _ T121.heap _
                rw [eh121]
                exact ⟨N121, rfl⟩
          · subst hv119
            have hRe := R97.trans (CHv.at X119 hZ94 hEL R97.1)
            rw [← eh119] at hRe
            rw [← hh] at hRe
            obtain ⟨fs, hr, hrun, hended, hend⟩ := X119.leaveW hS94 (by rw [eh119]; exact Y94) (v := (some (.int (1 : Int32)))) (fun h => by rw [Bd.returns] at h; cases h)
            refine ⟨_, _, pre120 _ ?_, hrun, hended, _, _, rfl, ?_, hRe, hend.1, hend.2.1, hend.2.2.1, hend.2.2.2.mono (by decide) (by decide)⟩
            · show Steps p.tables e below (T98.setTop (mkF m 101 #[.val (.int p0), .val (.int p1), .val (.int p2), .val (.int p3), .val (.int p4), .val (.int rb), .val (.int nb), .val (.ref rr_11), .val .null, .val (.ref b70), .val (.int (0 : Int32)), .unset] [(.int rb), (.int p0)])) _
              refine st119 _ ?_
              show Steps p.tables e below (T119.setTop (mkF m 104 #[.val (.int p0), .val (.int p1), .val (.int p2), .val (.int p3), .val (.int p4), .val (.int rb), .val (.int nb), .val (.ref rr_11), .val .null, .val (.ref b70), .val (.int (0 : Int32)), .unset] [(.int (0 : Int32))])) _
              refine XS.ifYes X119.here hx rfl (pc0 := 104) (pc' := 120) rfl (hb hby at_104) rfl (by decide) (by decide) (by decide) ?_
              show Steps p.tables e below (T119.setTop (mkF m 120 #[.val (.int p0), .val (.int p1), .val (.int p2), .val (.int p3), .val (.int p4), .val (.int rb), .val (.int nb), .val (.ref rr_11), .val .null, .val (.ref b70), .val (.int (0 : Int32)), .unset] [])) _
              refine XS.iconst X119.here hx rfl (hb hby at_120) ?_
              show Steps p.tables e below (T119.setTop (mkF m 121 #[.val (.int p0), .val (.int p1), .val (.int p2), .val (.int p3), .val (.int p4), .val (.int rb), .val (.int nb), .val (.ref rr_11), .val .null, .val (.ref b70), .val (.int (0 : Int32)), .unset] [(.int (0 : Int32))])) _
              refine XS.istore X119.here hx rfl (hb hby at_121) rfl (l' := #[.val (.int p0), .val (.int p1), .val (.int p2), .val (.int p3), .val (.int p4), .val (.int rb), .val (.int nb), .val (.ref rr_11), .val .null, .val (.ref b70), .val (.int (0 : Int32)), .val (.int (0 : Int32))]) rfl ?_
              show Steps p.tables e below (T119.setTop (mkF m 123 #[.val (.int p0), .val (.int p1), .val (.int p2), .val (.int p3), .val (.int p4), .val (.int rb), .val (.int nb), .val (.ref rr_11), .val .null, .val (.ref b70), .val (.int (0 : Int32)), .val (.int (0 : Int32))] [])) _
              refine XS.iload X119.here hx rfl (hb hby at_123) rfl ?_
              show Steps p.tables e below (T119.setTop (mkF m 125 #[.val (.int p0), .val (.int p1), .val (.int p2), .val (.int p3), .val (.int p4), .val (.int rb), .val (.int nb), .val (.ref rr_11), .val .null, .val (.ref b70), .val (.int (0 : Int32)), .val (.int (0 : Int32))] [(.int (0 : Int32))])) _
              refine XS.iload X119.here hx rfl (hb hby at_125) rfl ?_
              show Steps p.tables e below (T119.setTop (mkF m 127 #[.val (.int p0), .val (.int p1), .val (.int p2), .val (.int p3), .val (.int p4), .val (.int rb), .val (.int nb), .val (.ref rr_11), .val .null, .val (.ref b70), .val (.int (0 : Int32)), .val (.int (0 : Int32))] [(.int (0 : Int32)), (.int (0 : Int32))])) _
              refine XS.icmpNo X119.here hx rfl (hb hby at_127) rfl (by decide) ?_
              show Steps p.tables e below (T119.setTop (mkF m 130 #[.val (.int p0), .val (.int p1), .val (.int p2), .val (.int p3), .val (.int p4), .val (.int rb), .val (.int nb), .val (.ref rr_11), .val .null, .val (.ref b70), .val (.int (0 : Int32)), .val (.int (0 : Int32))] [])) _
              refine XS.iconst X119.here hx rfl (hb hby at_130) ?_
              show Steps p.tables e below (T119.setTop (mkF m 131 #[.val (.int p0), .val (.int p1), .val (.int p2), .val (.int p3), .val (.int p4), .val (.int rb), .val (.int nb), .val (.ref rr_11), .val .null, .val (.ref b70), .val (.int (0 : Int32)), .val (.int (0 : Int32))] [(.int (1 : Int32))])) _
              refine XS.goto X119.here hx rfl (pc0 := 131) (pc' := 135) rfl (hb hby at_131) (by decide) (by decide) ?_
              show Steps p.tables e below (T119.setTop (mkF m 135 #[.val (.int p0), .val (.int p1), .val (.int p2), .val (.int p3), .val (.int p4), .val (.int rb), .val (.int nb), .val (.ref rr_11), .val .null, .val (.ref b70), .val (.int (0 : Int32)), .val (.int (0 : Int32))] [(.int (1 : Int32))])) _
              exact retN X119 hx (t := .boolean) Bd.returns (by simp) (hb hby at_135) hr
            · show Q0 Z p0 p1 p2 p3 p4 G1 u0 u1 u2 u3 h0 n0 _ T119.heap _
              rw [eh119]
              exact ⟨N119, rfl⟩
set_option maxRecDepth 65536 in
set_option maxHeartbeats 40000000 in
theorem comes_1 {Post : Tables → Env → Array Value → State → Outcome → State → Prop} (hpost : ∀ tb e args s v u, (limb_1_1.after args s (.returned v) u = true ∧ limb_1_2.after args s (.returned v) u = true ∧ True) → ReturnedEndW s (.returned v) u (Jvm.fieldLocs frame_1_writes args s ++ Jvm.arrayLocs frame_1_arrays args s ++ Jvm.staticLocs frame_1_statics s) 48 1216 → Post tb e args s (.returned v) u) :
    ArmFor flags0 classFile x code maxLocals ret World_1 tables_1 room_1 Calls_1 rest_1 Pre_1 Post := by
  intro l hfl _ _ p e ha hc hk s m args below hf hA hF happ hP
  obtain ⟨hcalls, hrest, hpre⟩ := hP
  obtain ⟨-, -, -, hnamed, -, -, -, hat⟩ := (Spec.applies_iff hf).mp happ
  obtain ⟨hg, hn⟩ := and_e (Cond.before_iff.mp (show (Jvm.Cond.and given_1 narrow_1).before args s = true from hpre))
  obtain ⟨gv1, gv2⟩ := and_e hg
  obtain ⟨gv3, gv4⟩ := and_e gv2
  obtain ⟨gv5, gv6⟩ := and_e gv4
  obtain ⟨gv7, gv8⟩ := and_e gv6
  obtain ⟨gv9, gv10⟩ := and_e gv8
  obtain ⟨w0, w1, w2, w3, w4, rfl⟩ : ∃ w0 w1 w2 w3 w4 : Value, args = #[w0, w1, w2, w3, w4] := by
    have hs : args.size = 5 := by simpa [Cond.value, given_1] using gv1
    obtain ⟨L⟩ := args
    match L, hs with
    | [w0, w1, w2, w3, w4], _ => exact ⟨w0, w1, w2, w3, w4, rfl⟩
  have hw := fun d (hd : d ∈ tables_1) => atoms_spec (ws := Jvm.Cond.code x code maxLocals ret :: tables_1) hat d (List.mem_cons_of_mem _ hd)
  have hfit : Fit s := fun {y c} hc i hi => by
    obtain ⟨ha, rfl⟩ := Array.getElem?_eq_some_iff.mp hc
    have q := List.all_eq_true.mp ((Array.all_eq_true_iff_forall_mem.mp hF) _ (Array.getElem_mem ha)) i (List.mem_range.mpr hi)
    simpa [Array.getElem?_eq_getElem hi] using q
  obtain ⟨hsets, hown0⟩ := atoms_of _ (rest_1_c_eq ▸ (show rest_1_c.before _ s = true from hrest))
  obtain ⟨i0, ei0⟩ := is_v gv3
  obtain rfl : w0 = (.int i0) := Option.some.inj ei0
  obtain ⟨i1, ei1⟩ := is_v gv5
  obtain rfl : w1 = (.int i1) := Option.some.inj ei1
  obtain ⟨i2, ei2⟩ := is_v gv7
  obtain rfl : w2 = (.int i2) := Option.some.inj ei2
  obtain ⟨i3, ei3⟩ := is_v gv9
  obtain rfl : w3 = (.int i3) := Option.some.inj ei3
  obtain ⟨i4, ei4⟩ := is_v gv10
  obtain rfl : w4 = (.int i4) := Option.some.inj ei4
  have n5 := not_v (Cond.before_iff.mp (hsets _ (List.mem_of_getElem? (i := 2) rfl)))
  obtain ⟨i11, e10⟩ := is_v (Cond.before_iff.mp (hsets _ (List.mem_of_getElem? (i := 1) rfl)))
  have S12 : Sta s s.heap "java/lang/String" "COMPACT_STRINGS" "Z" (.int i11) := Sta.start e10 (Or.inl (hsets _ (List.mem_of_getElem? (i := 0) rfl)))
  have c17 : ¬ (i11 = (0 : Int32)) := gotF (Cond.eq_ints e10 (Term.int_eval (0))) n5
  have hEL : EW s _ own_EL := (EW.cons (own_k hw 24 rfl) (by decide) EW.nil)
  have hCH : CHv s own_EL s.vm s.heap := CHv.start hEL (fun p hp => hcalls.1 p ((by decide +kernel : ∀ p ∈ own_EL, p ∈ consts_1) p hp)) (hsets _ (List.mem_of_getElem? (i := 2) rfl)) (own_k hw 25 rfl) (own_k hw 11 rfl)
  obtain ⟨nx0, nr0⟩ := and_e hn
  obtain ⟨u0, ev0⟩ := exa_v nx0
  have hU0 : Sta s s.heap "com/example/wudaokou/wudaokou/model/Behaviour" "LOCATION" "Lcom/example/wudaokou/wudaokou/model/Behaviour;" (.ref u0) := Sta.start ev0 (Or.inr ⟨(own_k hw 5 rfl), (own_k hw 6 rfl)⟩)
  obtain ⟨nx1, nr1⟩ := and_e nr0
  obtain ⟨u1, ev1⟩ := exa_v nx1
  have hU1 : Sta s s.heap "com/example/wudaokou/wudaokou/model/Behaviour" "CONTACTS" "Lcom/example/wudaokou/wudaokou/model/Behaviour;" (.ref u1) := Sta.start ev1 (Or.inr ⟨(own_k hw 5 rfl), (own_k hw 72 rfl)⟩)
  obtain ⟨nx2, nr2⟩ := and_e nr1
  obtain ⟨u2, ev2⟩ := exa_v nx2
  have hU2 : Sta s s.heap "com/example/wudaokou/wudaokou/model/Behaviour" "CALL_LOG" "Lcom/example/wudaokou/wudaokou/model/Behaviour;" (.ref u2) := Sta.start ev2 (Or.inr ⟨(own_k hw 5 rfl), (own_k hw 74 rfl)⟩)
  have nx3 := nr2
  obtain ⟨u3, ev3⟩ := exa_v nx3
  have hU3 : Sta s s.heap "com/example/wudaokou/wudaokou/model/Behaviour" "CONTENT" "Lcom/example/wudaokou/wudaokou/model/Behaviour;" (.ref u3) := Sta.start ev3 (Or.inr ⟨(own_k hw 5 rfl), (own_k hw 86 rfl)⟩)
  obtain ⟨n, o, h1, h2, h3, _, L, rfl, ⟨N, rfl⟩, -, hq⟩ := rm0 l s _ hw tables_1 i0 i1 i2 i3 i4 i11 u0 u1 u2 u3 s.heap s.heap.size (Nat.le_refl _) S12 c17 (Old.start s) hU0 hU1 hU2 hU3 p e ha hc hk s m _ below hf ((Spec.applies_iff_loose hf).mp happ).1 ⟨rfl, State.Warmed39.refl s, rfl, hCH, all0⟩ trivial
  refine ⟨n, _, h1, h2, h3, hpost _ _ _ _ _ _ ⟨Cond.after_iff.mpr rfl, Cond.after_iff.mpr (eq_i res_at (Term.int_eval (1)) rfl), trivial⟩ ⟨hq.1, hq.2.1, hq.2.2.1, (hq.2.2.2.sift fun y hy => Or.inr (N y hy)).mono (by decide) (by decide)⟩⟩
theorem main_1_1 : Claimed_1_1 := comes_1 fun _ _ _ _ _ _ h hF => ⟨h.1, hF⟩
theorem main_1_2 : Claimed_1_2 := comes_1 fun _ _ _ _ _ _ h hF => ⟨h.2.1, hF⟩
end Jvm.Pilot.@@N@@
namespace Jvm.Pilot.@@N@@
open Jvm Jvm.ClassFile Sem Op Lib Jvm.Free Jvm.Stand Jvm.Pilot.@@N@@.Jvm.D
/-! MADE BY PROGRAM (witnessworld.py) out of the Statement's table words and the real class files: 24 classes; the members and pool entries that the words name. The judged class is class 1, her method 1. -/
namespace start1
open Jvm.ClassFile
def u (s : String) : CpInfo := .utf8 (stringToUtf16 s)
/-- a pool by its gaps: so many unusable entries, then the entry; so many at the end -/
def gap : Nat → List CpInfo → List CpInfo
  | 0, r => r
  | n + 1, r => .unusable :: gap n r
def poolList (es : List (Nat × CpInfo)) (last : Nat) : List CpInfo := es.foldr (fun e r => gap e.1 (e.2 :: r)) (gap last [])
def pool (es : List (Nat × CpInfo)) (last : Nat) : Array CpInfo := ⟨poolList es last⟩
def fileOf (pool : Array CpInfo) (this : Nat) (attrs : Array Attribute := #[]) (ms : Array MethodInfo := #[]) (fl : Nat := 33) (sup : Nat := 0) (ifs : Array Nat := #[]) (fds : Array FieldInfo := #[]) : ClassFile where
  minorVersion := 0
  majorVersion := 65
  constantPool := pool
  accessFlags := fl
  thisClass := this
  superClass := sup
  interfaces := ifs
  fields := fds
  methods := ms
  attributes := attrs
def plain (name : String) (sup : Option ClassId) : Class where
  name := name
  kind := .ordinary
  loader := none
  accessFlags := 33
  super := sup
  interfaces := #[]
  cf := none
  fields := #[]
  methods := #[]
  instanceTypes := #[]
  staticTypes := #[]
  resolved := #[]
  callSites := []
  init := .initialized
  statics := none
  mirror := none

def pool0 : Array CpInfo := pool [(5, u "<init>"), (0, u "()V"), (1, .class_ 10), (1, u "java/lang/Object")] 113

def k0c0 : Code := { maxStack := 0, maxLocals := 1, code := object_method_1_code, exceptionTable := #[], attributes := #[] }
def k0m0 : Method := { name := "<init>", desc := "()V", sig := { parameters := [], returnType := none }, accessFlags := 1, code := some k0c0 }
/-- java/lang/Object -/
def k0 : Class := { plain "java/lang/Object" none with
  accessFlags := 33
  interfaces := #[]
  cf := some (fileOf pool0 8 #[] #[{ accessFlags := 1, nameIndex := 5, descriptorIndex := 6, attributes := #[] }] 33 0 #[] #[])
  fields := #[]
  methods := #[k0m0]
  instanceTypes := #[]
  staticTypes := #[]
  resolved := Array.replicate 124 none
  statics := none }

def pool1 : Array CpInfo := pool [(2, .class_ 4), (1, u "java/lang/Object"), (0, u "<init>"), (0, u "()V"), (0, .methodref 8 9), (0, .class_ 10), (0, .nameAndType 11 12), (0, u "com/example/wudaokou/wudaokou/model/SensitiveCallIsNamedByPinLaw"), (0, u "behaviour"), (0, u "(I)Lcom/example/wudaokou/wudaokou/model/Behaviour;"), (0, .methodref 8 14), (0, .nameAndType 15 16), (0, u "str"), (0, u "(I)Ljava/lang/String;"), (0, .class_ 18), (0, u "com/example/wudaokou/wudaokou/model/SensitiveCall"), (0, .methodref 17 20), (0, .nameAndType 5 21), (0, u "(Lcom/example/wudaokou/wudaokou/model/Behaviour;Ljava/lang/String;Ljava/lang/String;Ljava/lang/String;)V"), (0, .methodref 17 23), (0, .nameAndType 24 25), (0, u "isNamedBy"), (0, u "(Ljava/lang/String;Ljava/lang/String;)Z"), (0, .methodref 8 27), (0, .nameAndType 28 29), (0, u "same"), (0, u "(II)Z"), (0, .fieldref 31 32), (0, .class_ 33), (0, .nameAndType 34 35), (0, u "com/example/wudaokou/wudaokou/model/Behaviour"), (0, u "LOCATION"), (0, u "Lcom/example/wudaokou/wudaokou/model/Behaviour;"), (0, .fieldref 31 37), (0, .nameAndType 38 35), (0, u "CONTACTS"), (0, .fieldref 31 40), (0, .nameAndType 41 35), (0, u "CALL_LOG"), (0, .fieldref 31 43), (0, .nameAndType 44 35), (0, u "CONTENT"), (0, .class_ 46), (0, u "java/lang/String"), (0, .methodref 45 48), (0, .nameAndType 5 49), (0, u "([C)V"), (2, u "law"), (0, u "(IIIII)Z")] 3

def k1m0 : Method := { name := "<init>", desc := "()V", sig := { parameters := [], returnType := none }, accessFlags := 1, code := none }
def k1c1 : Code := { maxStack := 6, maxLocals := 12, code := code, exceptionTable := #[], attributes := #[] }
def k1m1 : Method := { name := "law", desc := "(IIIII)Z", sig := { parameters := [.int, .int, .int, .int, .int], returnType := some .boolean }, accessFlags := 9, code := some k1c1 }
def k1c2 : Code := { maxStack := 2, maxLocals := 1, code := method_3_code, exceptionTable := #[], attributes := #[] }
def k1m2 : Method := { name := "behaviour", desc := "(I)Lcom/example/wudaokou/wudaokou/model/Behaviour;", sig := { parameters := [.int], returnType := some (.object "com/example/wudaokou/wudaokou/model/Behaviour") }, accessFlags := 10, code := some k1c2 }
def k1c3 : Code := { maxStack := 6, maxLocals := 5, code := method_4_code, exceptionTable := #[], attributes := #[] }
def k1m3 : Method := { name := "str", desc := "(I)Ljava/lang/String;", sig := { parameters := [.int], returnType := some (.object "java/lang/String") }, accessFlags := 10, code := some k1c3 }
def k1c4 : Code := { maxStack := 3, maxLocals := 3, code := method_5_code, exceptionTable := #[], attributes := #[] }
def k1m4 : Method := { name := "same", desc := "(II)Z", sig := { parameters := [.int, .int], returnType := some .boolean }, accessFlags := 10, code := some k1c4 }
/-- com/example/wudaokou/wudaokou/model/SensitiveCallIsNamedByPinLaw -/
def k1 : Class := { plain "com/example/wudaokou/wudaokou/model/SensitiveCallIsNamedByPinLaw" (some 0) with
  accessFlags := 49
  interfaces := #[]
  cf := some (fileOf pool1 8 #[] #[{ accessFlags := 1, nameIndex := 5, descriptorIndex := 6, attributes := #[] }, { accessFlags := 9, nameIndex := 52, descriptorIndex := 53, attributes := #[] }, { accessFlags := 10, nameIndex := 11, descriptorIndex := 12, attributes := #[] }, { accessFlags := 10, nameIndex := 15, descriptorIndex := 16, attributes := #[] }, { accessFlags := 10, nameIndex := 28, descriptorIndex := 29, attributes := #[] }] 49 2 #[] #[])
  fields := #[]
  methods := #[k1m0, k1m1, k1m2, k1m3, k1m4]
  instanceTypes := #[]
  staticTypes := #[]
  resolved := Array.replicate 57 none
  statics := none }

def pool2 : Array CpInfo := pool [(1, .class_ 2), (0, u "java/lang/constant/Constable"), (0, .class_ 4), (0, u "java/lang/Object")] 6

/-- java/lang/constant/Constable -/
def k2 : Class := { plain "java/lang/constant/Constable" (some 0) with
  accessFlags := 1537
  interfaces := #[]
  cf := some (fileOf pool2 1 #[] #[] 1537 3 #[] #[])
  fields := #[]
  methods := #[]
  instanceTypes := #[]
  staticTypes := #[]
  resolved := Array.replicate 11 none
  statics := none }

def pool3 : Array CpInfo := pool [(1, .class_ 2), (0, u "java/lang/Comparable"), (0, .class_ 4), (0, u "java/lang/Object")] 7

/-- java/lang/Comparable -/
def k3 : Class := { plain "java/lang/Comparable" (some 0) with
  accessFlags := 1537
  interfaces := #[]
  cf := some (fileOf pool3 1 #[] #[] 1537 3 #[] #[])
  fields := #[]
  methods := #[]
  instanceTypes := #[]
  staticTypes := #[]
  resolved := Array.replicate 12 none
  statics := none }

def pool4 : Array CpInfo := pool [(1, .class_ 2), (0, u "java/io/Serializable"), (0, .class_ 4), (0, u "java/lang/Object")] 2

/-- java/io/Serializable -/
def k4 : Class := { plain "java/io/Serializable" (some 0) with
  accessFlags := 1537
  interfaces := #[]
  cf := some (fileOf pool4 1 #[] #[] 1537 3 #[] #[])
  fields := #[]
  methods := #[]
  instanceTypes := #[]
  staticTypes := #[]
  resolved := Array.replicate 7 none
  statics := none }

def pool5 : Array CpInfo := pool [(2, .class_ 4), (1, u "java/lang/Enum"), (0, u "name"), (0, u "Ljava/lang/String;"), (2, u "ordinal"), (0, u "I"), (1, .class_ 14), (1, u "java/lang/Object"), (4, u "hash"), (86, .class_ 108), (1, u "java/lang/Enum$EnumDesc"), (2, .class_ 112), (0, u "java/lang/constant/Constable"), (0, .class_ 114), (0, u "java/lang/Comparable"), (0, .class_ 116), (0, u "java/io/Serializable")] 87

/-- java/lang/Enum -/
def k5 : Class := { plain "java/lang/Enum" (some 0) with
  accessFlags := 1057
  interfaces := #[2, 3, 4]
  cf := some (fileOf pool5 2 #[.nestMembers #[106]] #[] 1057 12 #[111, 113, 115] #[{ accessFlags := 18, nameIndex := 5, descriptorIndex := 6, attributes := #[] }, { accessFlags := 18, nameIndex := 9, descriptorIndex := 10, attributes := #[] }, { accessFlags := 2, nameIndex := 19, descriptorIndex := 10, attributes := #[] }])
  fields := #[{ name := "name", type := (.object "java/lang/String"), accessFlags := 18, slot := 0, constantValue := 0 }, { name := "ordinal", type := .int, accessFlags := 18, slot := 1, constantValue := 0 }, { name := "hash", type := .int, accessFlags := 2, slot := 2, constantValue := 0 }]
  methods := #[]
  instanceTypes := #[(.object "java/lang/String"), .int, .int]
  staticTypes := #[]
  resolved := Array.replicate 204 none
  statics := none }

def pool6 : Array CpInfo := pool [(1, .class_ 2), (0, u "com/example/wudaokou/wudaokou/model/Behaviour"), (2, u "LOCATION"), (0, u "Lcom/example/wudaokou/wudaokou/model/Behaviour;"), (2, u "CONTACTS"), (2, u "CALL_LOG"), (2, u "CONTENT"), (2, u "$VALUES"), (0, u "[Lcom/example/wudaokou/wudaokou/model/Behaviour;"), (6, .class_ 28), (1, u "java/lang/Enum"), (8, u "decidedByPolicy"), (0, u "Z")] 43

/-- com/example/wudaokou/wudaokou/model/Behaviour -/
def k6 : Class := { plain "com/example/wudaokou/wudaokou/model/Behaviour" (some 5) with
  accessFlags := 16433
  interfaces := #[]
  cf := some (fileOf pool6 1 #[] #[] 16433 26 #[] #[{ accessFlags := 16409, nameIndex := 5, descriptorIndex := 6, attributes := #[] }, { accessFlags := 16409, nameIndex := 9, descriptorIndex := 6, attributes := #[] }, { accessFlags := 16409, nameIndex := 12, descriptorIndex := 6, attributes := #[] }, { accessFlags := 16409, nameIndex := 15, descriptorIndex := 6, attributes := #[] }, { accessFlags := 18, nameIndex := 37, descriptorIndex := 38, attributes := #[] }, { accessFlags := 4122, nameIndex := 18, descriptorIndex := 19, attributes := #[] }])
  fields := #[{ name := "LOCATION", type := (.object "com/example/wudaokou/wudaokou/model/Behaviour"), accessFlags := 16409, slot := 0, constantValue := 0 }, { name := "CONTACTS", type := (.object "com/example/wudaokou/wudaokou/model/Behaviour"), accessFlags := 16409, slot := 1, constantValue := 0 }, { name := "CALL_LOG", type := (.object "com/example/wudaokou/wudaokou/model/Behaviour"), accessFlags := 16409, slot := 2, constantValue := 0 }, { name := "CONTENT", type := (.object "com/example/wudaokou/wudaokou/model/Behaviour"), accessFlags := 16409, slot := 3, constantValue := 0 }, { name := "decidedByPolicy", type := .boolean, accessFlags := 18, slot := 3, constantValue := 0 }, { name := "$VALUES", type := (.array (.object "com/example/wudaokou/wudaokou/model/Behaviour")), accessFlags := 4122, slot := 4, constantValue := 0 }]
  methods := #[]
  instanceTypes := #[(.object "java/lang/String"), .int, .int, .boolean]
  staticTypes := #[(.object "com/example/wudaokou/wudaokou/model/Behaviour"), (.object "com/example/wudaokou/wudaokou/model/Behaviour"), (.object "com/example/wudaokou/wudaokou/model/Behaviour"), (.object "com/example/wudaokou/wudaokou/model/Behaviour"), (.array (.object "com/example/wudaokou/wudaokou/model/Behaviour"))]
  resolved := Array.replicate 82 none
  statics := some 0 }

def pool7 : Array CpInfo := pool [(2, .class_ 4), (1, u "java/lang/CharSequence"), (42, .class_ 48), (0, u "java/lang/CharSequence$1CodePointIterator"), (10, .class_ 60), (0, u "java/lang/CharSequence$1CharIterator"), (5, .class_ 67), (0, u "java/lang/Object")] 63

/-- java/lang/CharSequence -/
def k7 : Class := { plain "java/lang/CharSequence" (some 0) with
  accessFlags := 1537
  interfaces := #[]
  cf := some (fileOf pool7 2 #[.nestMembers #[47, 59]] #[] 1537 66 #[] #[])
  fields := #[]
  methods := #[]
  instanceTypes := #[]
  staticTypes := #[]
  resolved := Array.replicate 131 none
  statics := none }

def pool8 : Array CpInfo := pool [(1, .class_ 2), (0, u "java/lang/constant/ConstantDesc"), (0, .class_ 4), (0, u "java/lang/Object")] 32

/-- java/lang/constant/ConstantDesc -/
def k8 : Class := { plain "java/lang/constant/ConstantDesc" (some 0) with
  accessFlags := 1537
  interfaces := #[]
  cf := some (fileOf pool8 1 #[] #[] 1537 3 #[] #[])
  fields := #[]
  methods := #[]
  instanceTypes := #[]
  staticTypes := #[]
  resolved := Array.replicate 37 none
  statics := none }

def pool9 : Array CpInfo := pool [(1, .methodref 2 3), (0, .class_ 4), (0, .nameAndType 5 6), (0, u "java/lang/Object"), (0, u "<init>"), (0, u "()V"), (0, .string 8), (0, u ""), (0, .fieldref 10 11), (0, .class_ 12), (0, .nameAndType 13 14), (0, u "java/lang/String"), (0, u "value"), (0, u "[B"), (0, .fieldref 10 16), (0, .nameAndType 17 18), (0, u "coder"), (0, u "B"), (2, u "hash"), (0, u "I"), (2, u "hashIsZero"), (0, u "Z"), (0, .methodref 10 28), (0, .nameAndType 5 29), (0, u "([CIILjava/lang/Void;)V"), (8, .fieldref 10 39), (0, .nameAndType 40 26), (0, u "COMPACT_STRINGS"), (1, .class_ 44), (1, u "java/lang/StringUTF16"), (0, u "compress"), (1, .methodref 42 48), (0, .nameAndType 49 50), (0, u "coderFromArrayLen"), (0, u "([BI)B"), (56, .class_ 109), (1, u "java/lang/StringLatin1"), (67, .methodref 42 178), (0, .nameAndType 45 179), (0, u "([CII)[B"), (361, .methodref 107 542), (0, .nameAndType 543 544), (0, u "equals"), (0, u "([B[B)Z"), (28, u "(Ljava/lang/Object;)Z"), (1, .class_ 576), (0, u "java/lang/CharSequence"), (22, u "CASE_INSENSITIVE_ORDER"), (0, u "Ljava/util/Comparator;"), (409, u "([C)V"), (90, u "serialPersistentFields"), (0, u "[Ljava/io/ObjectStreamField;"), (0, .class_ 1104), (0, u "java/lang/String$CaseInsensitiveComparator"), (1, .class_ 1107), (0, u "java/io/Serializable"), (0, .class_ 1109), (0, u "java/lang/Comparable"), (0, .class_ 1111), (0, u "java/lang/constant/Constable"), (0, .class_ 1113), (0, u "java/lang/constant/ConstantDesc"), (2, u "serialVersionUID"), (0, u "J"), (3, u "REPL"), (0, u "C"), (2, u "LATIN1"), (1, u "UTF16")] 323

def k9m0 : Method := { name := "<init>", desc := "()V", sig := { parameters := [], returnType := none }, accessFlags := 1, code := none }
def k9c1 : Code := { maxStack := 5, maxLocals := 2, code := jdk_42_method_3_code, exceptionTable := #[], attributes := #[] }
def k9m1 : Method := { name := "<init>", desc := "([C)V", sig := { parameters := [(.array .char)], returnType := none }, accessFlags := 1, code := some k9c1 }
def k9c2 : Code := { maxStack := 2, maxLocals := 3, code := jdk_42_method_66_code, exceptionTable := #[], attributes := #[] }
def k9m2 : Method := { name := "equals", desc := "(Ljava/lang/Object;)Z", sig := { parameters := [(.object "java/lang/Object")], returnType := some .boolean }, accessFlags := 1, code := some k9c2 }
def k9c3 : Code := { maxStack := 4, maxLocals := 6, code := jdk_42_method_149_code, exceptionTable := #[], attributes := #[] }
def k9m3 : Method := { name := "<init>", desc := "([CIILjava/lang/Void;)V", sig := { parameters := [(.array .char), .int, .int, (.object "java/lang/Void")], returnType := none }, accessFlags := 2, code := some k9c3 }
/-- java/lang/String -/
def k9 : Class := { plain "java/lang/String" (some 0) with
  accessFlags := 49
  interfaces := #[4, 3, 7, 2, 8]
  cf := some (fileOf pool9 10 #[.nestMembers #[1103]] #[{ accessFlags := 1, nameIndex := 5, descriptorIndex := 6, attributes := #[] }, { accessFlags := 1, nameIndex := 5, descriptorIndex := 1010, attributes := #[] }, { accessFlags := 1, nameIndex := 543, descriptorIndex := 573, attributes := #[] }, { accessFlags := 2, nameIndex := 5, descriptorIndex := 29, attributes := #[] }] 49 2 #[1106, 1108, 575, 1110, 1112] #[{ accessFlags := 18, nameIndex := 13, descriptorIndex := 14, attributes := #[] }, { accessFlags := 18, nameIndex := 17, descriptorIndex := 18, attributes := #[] }, { accessFlags := 2, nameIndex := 21, descriptorIndex := 22, attributes := #[] }, { accessFlags := 2, nameIndex := 25, descriptorIndex := 26, attributes := #[] }, { accessFlags := 26, nameIndex := 1116, descriptorIndex := 1117, attributes := #[] }, { accessFlags := 24, nameIndex := 40, descriptorIndex := 26, attributes := #[] }, { accessFlags := 26, nameIndex := 1101, descriptorIndex := 1102, attributes := #[] }, { accessFlags := 26, nameIndex := 1121, descriptorIndex := 1122, attributes := #[] }, { accessFlags := 25, nameIndex := 599, descriptorIndex := 600, attributes := #[] }, { accessFlags := 24, nameIndex := 1125, descriptorIndex := 18, attributes := #[] }, { accessFlags := 24, nameIndex := 1127, descriptorIndex := 18, attributes := #[] }])
  fields := #[{ name := "value", type := (.array .byte), accessFlags := 18, slot := 0, constantValue := 0 }, { name := "coder", type := .byte, accessFlags := 18, slot := 1, constantValue := 0 }, { name := "hash", type := .int, accessFlags := 2, slot := 2, constantValue := 0 }, { name := "hashIsZero", type := .boolean, accessFlags := 2, slot := 3, constantValue := 0 }, { name := "serialVersionUID", type := .long, accessFlags := 26, slot := 0, constantValue := 0 }, { name := "COMPACT_STRINGS", type := .boolean, accessFlags := 24, slot := 1, constantValue := 0 }, { name := "serialPersistentFields", type := (.array (.object "java/io/ObjectStreamField")), accessFlags := 26, slot := 2, constantValue := 0 }, { name := "REPL", type := .char, accessFlags := 26, slot := 3, constantValue := 0 }, { name := "CASE_INSENSITIVE_ORDER", type := (.object "java/util/Comparator"), accessFlags := 25, slot := 4, constantValue := 0 }, { name := "LATIN1", type := .byte, accessFlags := 24, slot := 5, constantValue := 0 }, { name := "UTF16", type := .byte, accessFlags := 24, slot := 6, constantValue := 0 }]
  methods := #[k9m0, k9m1, k9m2, k9m3]
  instanceTypes := #[(.array .byte), .byte, .int, .boolean]
  staticTypes := #[.long, .boolean, (.array (.object "java/io/ObjectStreamField")), .char, (.object "java/util/Comparator"), .byte, .byte]
  resolved := Array.replicate 1451 none
  statics := some 1 }

def pool10 : Array CpInfo := pool [(1, .methodref 2 3), (0, .class_ 4), (0, .nameAndType 5 6), (0, u "java/lang/Object"), (0, u "<init>"), (0, u "()V"), (0, .class_ 8), (0, u "java/lang/Record")] 13

def k10c0 : Code := { maxStack := 1, maxLocals := 1, code := jdk_30_method_1_code, exceptionTable := #[], attributes := #[] }
def k10m0 : Method := { name := "<init>", desc := "()V", sig := { parameters := [], returnType := none }, accessFlags := 4, code := some k10c0 }
/-- java/lang/Record -/
def k10 : Class := { plain "java/lang/Record" (some 0) with
  accessFlags := 1057
  interfaces := #[]
  cf := some (fileOf pool10 7 #[] #[{ accessFlags := 4, nameIndex := 5, descriptorIndex := 6, attributes := #[] }] 1057 2 #[] #[])
  fields := #[]
  methods := #[k10m0]
  instanceTypes := #[]
  staticTypes := #[]
  resolved := Array.replicate 22 none
  statics := none }

def pool11 : Array CpInfo := pool [(1, .class_ 2), (0, u "com/example/wudaokou/wudaokou/model/SensitiveApi"), (2, u "CALLS"), (0, u "Ljava/util/List;"), (100, u "CALLBACKS"), (0, .class_ 109), (0, u "java/lang/Object"), (0, u "GUARD_PACKAGE"), (0, u "Ljava/lang/String;"), (3, u "LOCATION_GUARD"), (0, u "CONTENT_GUARD")] 32

/-- com/example/wudaokou/wudaokou/model/SensitiveApi -/
def k11 : Class := { plain "com/example/wudaokou/wudaokou/model/SensitiveApi" (some 0) with
  accessFlags := 1537
  interfaces := #[]
  cf := some (fileOf pool11 1 #[] #[] 1537 108 #[] #[{ accessFlags := 25, nameIndex := 110, descriptorIndex := 111, attributes := #[] }, { accessFlags := 25, nameIndex := 115, descriptorIndex := 111, attributes := #[] }, { accessFlags := 25, nameIndex := 116, descriptorIndex := 111, attributes := #[] }, { accessFlags := 25, nameIndex := 5, descriptorIndex := 6, attributes := #[] }, { accessFlags := 25, nameIndex := 107, descriptorIndex := 6, attributes := #[] }])
  fields := #[{ name := "GUARD_PACKAGE", type := (.object "java/lang/String"), accessFlags := 25, slot := 0, constantValue := 0 }, { name := "LOCATION_GUARD", type := (.object "java/lang/String"), accessFlags := 25, slot := 1, constantValue := 0 }, { name := "CONTENT_GUARD", type := (.object "java/lang/String"), accessFlags := 25, slot := 2, constantValue := 0 }, { name := "CALLS", type := (.object "java/util/List"), accessFlags := 25, slot := 3, constantValue := 0 }, { name := "CALLBACKS", type := (.object "java/util/List"), accessFlags := 25, slot := 4, constantValue := 0 }]
  methods := #[]
  instanceTypes := #[]
  staticTypes := #[(.object "java/lang/String"), (.object "java/lang/String"), (.object "java/lang/String"), (.object "java/util/List"), (.object "java/util/List")]
  resolved := Array.replicate 149 none
  statics := none }

def pool12 : Array CpInfo := pool [(1, .methodref 2 3), (0, .class_ 4), (0, .nameAndType 5 6), (0, u "java/lang/Record"), (0, u "<init>"), (0, u "()V"), (0, .fieldref 8 9), (0, .class_ 10), (0, .nameAndType 11 12), (0, u "com/example/wudaokou/wudaokou/model/SensitiveCall"), (0, u "behaviour"), (0, u "Lcom/example/wudaokou/wudaokou/model/Behaviour;"), (0, .fieldref 8 14), (0, .nameAndType 15 16), (0, u "declaringType"), (0, u "Ljava/lang/String;"), (0, .fieldref 8 18), (0, .nameAndType 19 16), (0, u "methodName"), (0, .fieldref 8 21), (0, .nameAndType 22 16), (0, u "guard"), (0, .methodref 24 25), (0, .class_ 26), (0, .nameAndType 27 28), (0, u "java/lang/String"), (0, u "equals"), (0, u "(Ljava/lang/Object;)Z"), (11, .class_ 41), (0, u "com/example/wudaokou/wudaokou/model/SensitiveApi"), (0, u "(Lcom/example/wudaokou/wudaokou/model/Behaviour;Ljava/lang/String;Ljava/lang/String;Ljava/lang/String;)V"), (3, u "isNamedBy"), (0, u "(Ljava/lang/String;Ljava/lang/String;)Z")] 27

def k12c0 : Code := { maxStack := 2, maxLocals := 5, code := prog_16_method_1_code, exceptionTable := #[], attributes := #[] }
def k12m0 : Method := { name := "<init>", desc := "(Lcom/example/wudaokou/wudaokou/model/Behaviour;Ljava/lang/String;Ljava/lang/String;Ljava/lang/String;)V", sig := { parameters := [(.object "com/example/wudaokou/wudaokou/model/Behaviour"), (.object "java/lang/String"), (.object "java/lang/String"), (.object "java/lang/String")], returnType := none }, accessFlags := 1, code := some k12c0 }
def k12c1 : Code := { maxStack := 2, maxLocals := 3, code := prog_16_method_2_code, exceptionTable := #[], attributes := #[] }
def k12m1 : Method := { name := "isNamedBy", desc := "(Ljava/lang/String;Ljava/lang/String;)Z", sig := { parameters := [(.object "java/lang/String"), (.object "java/lang/String")], returnType := some .boolean }, accessFlags := 1, code := some k12c1 }
/-- com/example/wudaokou/wudaokou/model/SensitiveCall -/
def k12 : Class := { plain "com/example/wudaokou/wudaokou/model/SensitiveCall" (some 10) with
  accessFlags := 49
  interfaces := #[11]
  cf := some (fileOf pool12 8 #[] #[{ accessFlags := 1, nameIndex := 5, descriptorIndex := 42, attributes := #[] }, { accessFlags := 1, nameIndex := 46, descriptorIndex := 47, attributes := #[] }] 49 2 #[40] #[{ accessFlags := 18, nameIndex := 11, descriptorIndex := 12, attributes := #[] }, { accessFlags := 18, nameIndex := 15, descriptorIndex := 16, attributes := #[] }, { accessFlags := 18, nameIndex := 19, descriptorIndex := 16, attributes := #[] }, { accessFlags := 18, nameIndex := 22, descriptorIndex := 16, attributes := #[] }])
  fields := #[{ name := "behaviour", type := (.object "com/example/wudaokou/wudaokou/model/Behaviour"), accessFlags := 18, slot := 0, constantValue := 0 }, { name := "declaringType", type := (.object "java/lang/String"), accessFlags := 18, slot := 1, constantValue := 0 }, { name := "methodName", type := (.object "java/lang/String"), accessFlags := 18, slot := 2, constantValue := 0 }, { name := "guard", type := (.object "java/lang/String"), accessFlags := 18, slot := 3, constantValue := 0 }]
  methods := #[k12m0, k12m1]
  instanceTypes := #[(.object "com/example/wudaokou/wudaokou/model/Behaviour"), (.object "java/lang/String"), (.object "java/lang/String"), (.object "java/lang/String")]
  staticTypes := #[]
  resolved := Array.replicate 75 none
  statics := none }

def pool13 : Array CpInfo := pool [(4, .class_ 6), (1, u "java/lang/Object"), (0, u "<init>"), (0, u "()V"), (5, .class_ 16), (1, u "java/lang/StringLatin1"), (104, u "$assertionsDisabled"), (0, u "Z"), (98, .class_ 223), (1, u "java/lang/StringLatin1$LinesSpliterator"), (57, u "equals"), (0, u "([B[B)Z"), (107, .class_ 391), (0, u "java/lang/StringLatin1$CharsSpliterator")] 3

def k13m0 : Method := { name := "<init>", desc := "()V", sig := { parameters := [], returnType := none }, accessFlags := 0, code := none }
def k13c1 : Code := { maxStack := 3, maxLocals := 3, code := jdk_43_method_13_code, exceptionTable := #[], attributes := #[] }
def k13m1 : Method := { name := "equals", desc := "([B[B)Z", sig := { parameters := [(.array .byte), (.array .byte)], returnType := some .boolean }, accessFlags := 9, code := some k13c1 }
/-- java/lang/StringLatin1 -/
def k13 : Class := { plain "java/lang/StringLatin1" (some 0) with
  accessFlags := 48
  interfaces := #[]
  cf := some (fileOf pool13 14 #[.nestMembers #[390, 221]] #[{ accessFlags := 0, nameIndex := 7, descriptorIndex := 8, attributes := #[] }, { accessFlags := 9, nameIndex := 281, descriptorIndex := 282, attributes := #[] }] 48 4 #[] #[{ accessFlags := 4120, nameIndex := 121, descriptorIndex := 122, attributes := #[] }])
  fields := #[{ name := "$assertionsDisabled", type := .boolean, accessFlags := 4120, slot := 0, constantValue := 0 }]
  methods := #[k13m0, k13m1]
  instanceTypes := #[]
  staticTypes := #[.boolean]
  resolved := Array.replicate 395 none
  statics := none }

def pool14 : Array CpInfo := pool [(6, .class_ 8), (1, u "java/lang/Object"), (0, u "<init>"), (0, u "()V"), (1, .class_ 14), (1, u "java/lang/StringUTF16"), (31, u "$assertionsDisabled"), (0, u "Z"), (13, u "HI_BYTE_SHIFT"), (0, u "I"), (2, u "LO_BYTE_SHIFT"), (49, .methodref 12 116), (0, .nameAndType 117 118), (0, u "compress"), (0, u "([CI[BII)I"), (3, u "([CII)[B"), (138, u "coderFromArrayLen"), (0, u "([BI)B"), (106, .class_ 371), (1, u "java/lang/StringUTF16$LinesSpliterator"), (58, u "MAX_LENGTH"), (196, .class_ 628), (0, u "java/lang/StringUTF16$CodePointsSpliterator"), (0, .class_ 630), (0, u "java/lang/StringUTF16$CharsSpliterator")] 4

def k14m0 : Method := { name := "<init>", desc := "()V", sig := { parameters := [], returnType := none }, accessFlags := 0, code := none }
def k14c1 : Code := { maxStack := 2, maxLocals := 2, code := jdk_52_method_15_code, exceptionTable := #[], attributes := #[] }
def k14m1 : Method := { name := "coderFromArrayLen", desc := "([BI)B", sig := { parameters := [(.array .byte), .int], returnType := some .byte }, accessFlags := 8, code := some k14c1 }
def k14c2 : Code := { maxStack := 5, maxLocals := 6, code := jdk_52_method_16_code, exceptionTable := #[], attributes := #[] }
def k14m2 : Method := { name := "compress", desc := "([CII)[B", sig := { parameters := [(.array .char), .int, .int], returnType := some (.array .byte) }, accessFlags := 9, code := some k14c2 }
def k14c3 : Code := { maxStack := 3, maxLocals := 7, code := jdk_52_method_21_code, exceptionTable := #[], attributes := #[] }
def k14m3 : Method := { name := "compress", desc := "([CI[BII)I", sig := { parameters := [(.array .char), .int, (.array .byte), .int, .int], returnType := some .int }, accessFlags := 9, code := some k14c3 }
/-- java/lang/StringUTF16 -/
def k14 : Class := { plain "java/lang/StringUTF16" (some 0) with
  accessFlags := 48
  interfaces := #[]
  cf := some (fileOf pool14 12 #[.nestMembers #[627, 629, 369]] #[{ accessFlags := 0, nameIndex := 9, descriptorIndex := 10, attributes := #[] }, { accessFlags := 8, nameIndex := 261, descriptorIndex := 262, attributes := #[] }, { accessFlags := 9, nameIndex := 117, descriptorIndex := 122, attributes := #[] }, { accessFlags := 9, nameIndex := 117, descriptorIndex := 118, attributes := #[] }] 48 6 #[] #[{ accessFlags := 26, nameIndex := 61, descriptorIndex := 62, attributes := #[] }, { accessFlags := 26, nameIndex := 65, descriptorIndex := 62, attributes := #[] }, { accessFlags := 24, nameIndex := 430, descriptorIndex := 62, attributes := #[] }, { accessFlags := 4120, nameIndex := 46, descriptorIndex := 47, attributes := #[] }])
  fields := #[{ name := "HI_BYTE_SHIFT", type := .int, accessFlags := 26, slot := 0, constantValue := 0 }, { name := "LO_BYTE_SHIFT", type := .int, accessFlags := 26, slot := 1, constantValue := 0 }, { name := "MAX_LENGTH", type := .int, accessFlags := 24, slot := 2, constantValue := 0 }, { name := "$assertionsDisabled", type := .boolean, accessFlags := 4120, slot := 3, constantValue := 0 }]
  methods := #[k14m0, k14m1, k14m2, k14m3]
  instanceTypes := #[]
  staticTypes := #[.int, .int, .int, .boolean]
  resolved := Array.replicate 635 none
  statics := none }

def pool15 : Array CpInfo := pool [(2, .class_ 4), (1, u "java/lang/Object"), (0, u "<init>"), (0, u "()V"), (17, .class_ 26), (1, u "jdk/internal/util/Preconditions"), (28, .class_ 56), (0, u "jdk/internal/util/Preconditions$4"), (57, .class_ 115), (0, u "jdk/internal/util/Preconditions$1"), (7, u "SIOOBE_FORMATTER"), (0, u "Ljava/util/function/BiFunction;"), (0, .class_ 126), (0, u "jdk/internal/util/Preconditions$2"), (3, u "AIOOBE_FORMATTER"), (0, .class_ 132), (0, u "jdk/internal/util/Preconditions$3"), (3, u "IOOBE_FORMATTER")] 57

def k15m0 : Method := { name := "<init>", desc := "()V", sig := { parameters := [], returnType := none }, accessFlags := 1, code := none }
/-- jdk/internal/util/Preconditions -/
def k15 : Class := { plain "jdk/internal/util/Preconditions" (some 0) with
  accessFlags := 33
  interfaces := #[]
  cf := some (fileOf pool15 24 #[.nestMembers #[55, 131, 125, 114]] #[{ accessFlags := 1, nameIndex := 5, descriptorIndex := 6, attributes := #[] }] 33 2 #[] #[{ accessFlags := 25, nameIndex := 123, descriptorIndex := 124, attributes := #[] }, { accessFlags := 25, nameIndex := 130, descriptorIndex := 124, attributes := #[] }, { accessFlags := 25, nameIndex := 136, descriptorIndex := 124, attributes := #[] }])
  fields := #[{ name := "SIOOBE_FORMATTER", type := (.object "java/util/function/BiFunction"), accessFlags := 25, slot := 0, constantValue := 0 }, { name := "AIOOBE_FORMATTER", type := (.object "java/util/function/BiFunction"), accessFlags := 25, slot := 1, constantValue := 0 }, { name := "IOOBE_FORMATTER", type := (.object "java/util/function/BiFunction"), accessFlags := 25, slot := 2, constantValue := 0 }]
  methods := #[k15m0]
  instanceTypes := #[]
  staticTypes := #[(.object "java/util/function/BiFunction"), (.object "java/util/function/BiFunction"), (.object "java/util/function/BiFunction")]
  resolved := Array.replicate 194 none
  statics := some 2 }

def pool16 : Array CpInfo := pool [(9, u "<init>"), (6, .class_ 18), (1, u "java/lang/Object"), (0, u "()V"), (1, .class_ 23), (1, u "jdk/internal/util/ArraysSupport"), (0, u "LOG2_ARRAY_LONG_INDEX_SCALE"), (0, u "I"), (2, u "U"), (0, u "Ljdk/internal/misc/Unsafe;"), (8, u "BIG_ENDIAN"), (0, u "Z"), (8, u "LOG2_BYTE_BIT_SIZE"), (4, u "LOG2_ARRAY_INT_INDEX_SCALE"), (54, u "JLA"), (0, u "Ljdk/internal/access/JavaLangAccess;"), (11, u "LOG2_ARRAY_BOOLEAN_INDEX_SCALE"), (9, u "LOG2_ARRAY_BYTE_INDEX_SCALE"), (5, u "LOG2_ARRAY_CHAR_INDEX_SCALE"), (5, u "LOG2_ARRAY_SHORT_INDEX_SCALE"), (18, u "LOG2_ARRAY_FLOAT_INDEX_SCALE"), (24, u "LOG2_ARRAY_DOUBLE_INDEX_SCALE"), (89, u "T_BOOLEAN"), (2, u "T_CHAR"), (1, u "T_FLOAT"), (1, u "T_DOUBLE"), (1, u "T_BYTE"), (1, u "T_SHORT"), (1, u "T_INT"), (1, u "T_LONG"), (1, u "SOFT_MAX_ARRAY_LENGTH")] 83

def k16m0 : Method := { name := "<init>", desc := "()V", sig := { parameters := [], returnType := none }, accessFlags := 2, code := none }
/-- jdk/internal/util/ArraysSupport -/
def k16 : Class := { plain "jdk/internal/util/ArraysSupport" (some 0) with
  accessFlags := 33
  interfaces := #[]
  cf := some (fileOf pool16 21 #[] #[{ accessFlags := 2, nameIndex := 9, descriptorIndex := 19, attributes := #[] }] 33 16 #[] #[{ accessFlags := 24, nameIndex := 28, descriptorIndex := 29, attributes := #[] }, { accessFlags := 26, nameIndex := 38, descriptorIndex := 39, attributes := #[] }, { accessFlags := 25, nameIndex := 121, descriptorIndex := 25, attributes := #[] }, { accessFlags := 25, nameIndex := 131, descriptorIndex := 25, attributes := #[] }, { accessFlags := 25, nameIndex := 137, descriptorIndex := 25, attributes := #[] }, { accessFlags := 25, nameIndex := 143, descriptorIndex := 25, attributes := #[] }, { accessFlags := 25, nameIndex := 53, descriptorIndex := 25, attributes := #[] }, { accessFlags := 25, nameIndex := 24, descriptorIndex := 25, attributes := #[] }, { accessFlags := 25, nameIndex := 162, descriptorIndex := 25, attributes := #[] }, { accessFlags := 25, nameIndex := 187, descriptorIndex := 25, attributes := #[] }, { accessFlags := 26, nameIndex := 48, descriptorIndex := 25, attributes := #[] }, { accessFlags := 25, nameIndex := 277, descriptorIndex := 25, attributes := #[] }, { accessFlags := 25, nameIndex := 280, descriptorIndex := 25, attributes := #[] }, { accessFlags := 25, nameIndex := 282, descriptorIndex := 25, attributes := #[] }, { accessFlags := 25, nameIndex := 284, descriptorIndex := 25, attributes := #[] }, { accessFlags := 25, nameIndex := 286, descriptorIndex := 25, attributes := #[] }, { accessFlags := 25, nameIndex := 288, descriptorIndex := 25, attributes := #[] }, { accessFlags := 25, nameIndex := 290, descriptorIndex := 25, attributes := #[] }, { accessFlags := 25, nameIndex := 292, descriptorIndex := 25, attributes := #[] }, { accessFlags := 26, nameIndex := 108, descriptorIndex := 109, attributes := #[] }, { accessFlags := 25, nameIndex := 294, descriptorIndex := 25, attributes := #[] }])
  fields := #[{ name := "U", type := (.object "jdk/internal/misc/Unsafe"), accessFlags := 24, slot := 0, constantValue := 0 }, { name := "BIG_ENDIAN", type := .boolean, accessFlags := 26, slot := 1, constantValue := 0 }, { name := "LOG2_ARRAY_BOOLEAN_INDEX_SCALE", type := .int, accessFlags := 25, slot := 2, constantValue := 0 }, { name := "LOG2_ARRAY_BYTE_INDEX_SCALE", type := .int, accessFlags := 25, slot := 3, constantValue := 0 }, { name := "LOG2_ARRAY_CHAR_INDEX_SCALE", type := .int, accessFlags := 25, slot := 4, constantValue := 0 }, { name := "LOG2_ARRAY_SHORT_INDEX_SCALE", type := .int, accessFlags := 25, slot := 5, constantValue := 0 }, { name := "LOG2_ARRAY_INT_INDEX_SCALE", type := .int, accessFlags := 25, slot := 6, constantValue := 0 }, { name := "LOG2_ARRAY_LONG_INDEX_SCALE", type := .int, accessFlags := 25, slot := 7, constantValue := 0 }, { name := "LOG2_ARRAY_FLOAT_INDEX_SCALE", type := .int, accessFlags := 25, slot := 8, constantValue := 0 }, { name := "LOG2_ARRAY_DOUBLE_INDEX_SCALE", type := .int, accessFlags := 25, slot := 9, constantValue := 0 }, { name := "LOG2_BYTE_BIT_SIZE", type := .int, accessFlags := 26, slot := 10, constantValue := 0 }, { name := "T_BOOLEAN", type := .int, accessFlags := 25, slot := 11, constantValue := 0 }, { name := "T_CHAR", type := .int, accessFlags := 25, slot := 12, constantValue := 0 }, { name := "T_FLOAT", type := .int, accessFlags := 25, slot := 13, constantValue := 0 }, { name := "T_DOUBLE", type := .int, accessFlags := 25, slot := 14, constantValue := 0 }, { name := "T_BYTE", type := .int, accessFlags := 25, slot := 15, constantValue := 0 }, { name := "T_SHORT", type := .int, accessFlags := 25, slot := 16, constantValue := 0 }, { name := "T_INT", type := .int, accessFlags := 25, slot := 17, constantValue := 0 }, { name := "T_LONG", type := .int, accessFlags := 25, slot := 18, constantValue := 0 }, { name := "JLA", type := (.object "jdk/internal/access/JavaLangAccess"), accessFlags := 26, slot := 19, constantValue := 0 }, { name := "SOFT_MAX_ARRAY_LENGTH", type := .int, accessFlags := 25, slot := 20, constantValue := 0 }]
  methods := #[k16m0]
  instanceTypes := #[]
  staticTypes := #[(.object "jdk/internal/misc/Unsafe"), .boolean, .int, .int, .int, .int, .int, .int, .int, .int, .int, .int, .int, .int, .int, .int, .int, .int, .int, (.object "jdk/internal/access/JavaLangAccess"), .int]
  resolved := Array.replicate 378 none
  statics := none }

def pool17 : Array CpInfo := pool [(1, u "java/lang/Cloneable"), (0, .class_ 1), (0, u "java/lang/Object"), (0, .class_ 3)] 3

/-- java/lang/Cloneable -/
def k17 : Class := { plain "java/lang/Cloneable" (some 0) with
  accessFlags := 1537
  interfaces := #[]
  cf := some (fileOf pool17 2 #[] #[] 1537 4 #[] #[])
  fields := #[]
  methods := #[]
  instanceTypes := #[]
  staticTypes := #[]
  resolved := Array.replicate 8 none
  statics := none }

/-- the primitive byte -/
def k18 : Class := { plain "byte" none with kind := .primitive 'B', accessFlags := 0x411 }
/-- [B -/
def k19 : Class := { plain "[B" (some 0) with kind := .array 18 .byte, interfaces := #[17, 4], accessFlags := 1041 }

/-- the primitive char -/
def k20 : Class := { plain "char" none with kind := .primitive 'C', accessFlags := 0x411 }
/-- [C -/
def k21 : Class := { plain "[C" (some 0) with kind := .array 20 .char, interfaces := #[17, 4], accessFlags := 1041 }

/-- the primitive int -/
def k22 : Class := { plain "int" none with kind := .primitive 'I', accessFlags := 0x411 }
/-- [I -/
def k23 : Class := { plain "[I" (some 0) with kind := .array 22 .int, interfaces := #[17, 4], accessFlags := 1041 }

def heap : Heap := #[{ cls := 6, slots := #[.ref 3, .ref 4, .ref 5, .ref 6, .null], vm := .statics 6 },
  { cls := 9, slots := #[.long 0, .int 1, .null, .int 0, .null, .int 0, .int 0], vm := .statics 9 },
  { cls := 15, slots := #[.null, .null, .null], vm := .statics 15 },
  { cls := 6, slots := #[.null, .int 0, .int 0, .int 0], vm := .none },
  { cls := 6, slots := #[.null, .int 0, .int 0, .int 0], vm := .none },
  { cls := 6, slots := #[.null, .int 0, .int 0, .int 0], vm := .none },
  { cls := 6, slots := #[.null, .int 0, .int 0, .int 0], vm := .none }]
def classes : Array Class := #[k0, k1, k2, k3, k4, k5, k6, k7, k8, k9, k10, k11, k12, k13, k14, k15, k16, k17, k18, k19, k20, k21, k22, k23]
def interned : List (Array UInt16 × Addr) := []
def slotsUsed : Nat := 31
def theMethod : MethodId := ⟨1, 1⟩
def args0 : Array Value := #[.int 5, .int 3, .int 1, .int 2, .int 3]
def aboutOver (below : List Frame) : State where
  vm := { classes := classes, interned := interned.toArray }
  heap := heap
  slotsUsed := slotsUsed
  threads := #[{ frames := .invoking theMethod args0 :: below }]
def below0 : List Frame := [.native { method := ⟨0, 0⟩, args := #[] }]
def about1 : State := aboutOver below0
def p0 : Program := .bare "" "" ""
def e0 : Env := launch0.env 0 0 0
theorem w_frames : about1.frames = Frame.invoking theMethod args0 :: below0 := rfl
set_option maxRecDepth 65536 in
theorem w_args : argsFit about1.vm theMethod args0 = true := by decide +kernel
set_option maxRecDepth 65536 in
theorem w_heap : heapFits about1 = true := by decide +kernel
set_option maxRecDepth 65536 in
theorem w_runnable : about1.curStatus? = some .runnable := by decide +kernel
set_option maxRecDepth 65536 in
theorem w_alone : about1.alone = true := by decide +kernel
set_option maxRecDepth 65536 in
theorem w_named : about1.methodNamed? x = some theMethod := by decide +kernel
set_option maxRecDepth 65536 in
theorem w_hears : about1.hears theMethod below0 = true := by decide +kernel
set_option maxRecDepth 65536 in
theorem w_ripe : about1.ripe theMethod args0 below0 = true := by decide +kernel
theorem w_running : about1.status = .running := rfl
set_option maxRecDepth 65536 in
theorem w_room : about1.hasRoom e0.platform room_1 = true :=
  launch0.hasRoom_least _ room_1 (by decide +kernel) (by decide +kernel) (by decide +kernel) (by decide +kernel) (by decide +kernel) (by decide +kernel)
theorem allAtoms_all (ts : List Jvm.Cond) (a : Array Jvm.Value) (st : Jvm.State) : (allAtoms ts).before a st = ts.all (fun c => c.before a st) := by
  induction ts with
  | nil => rfl
  | cons c t ih =>
    show (Jvm.Cond.and c (allAtoms t)).before a st = _
    rw [Jvm.Cond.before_and, ih, List.all_cons]
def words1 : List Jvm.Cond := Jvm.Cond.code x code maxLocals ret :: tables_1
/-- a 'code' word, met by the world's own term for the bytes: nothing is compared byte by byte -/
theorem code_word {y : MethodName} {bytes : ByteArray} {mx : Nat} {rt : Option FieldType} {a : Array Value} {s : State} {m : MethodId} {meth : Method} {c : Code} (h1 : s.methodNamed? y = some m) (h2 : s.vm.method? m = some meth) (h3 : meth.code = some c) (h4 : c.code = bytes)
    (h5 : (c.maxLocals == mx && c.exceptionTable.isEmpty && decide (c.maxStack ≤ mostOperands) && decide (meth.sig.returnType = rt) && !meth.locks && decide (parseMethodDescriptor y.desc = some meth.sig)) = true) : (Jvm.Cond.code y bytes mx rt).before a s = true := by
  simp only [Bool.and_eq_true, beq_iff_eq, Bool.not_eq_true', decide_eq_true_eq] at h5
  obtain ⟨⟨⟨⟨⟨g1, g2⟩, g3⟩, g4⟩, g5⟩, g6⟩ := h5
  simp [Cond.before, Cond.holds, Cond.value, h1, h2, h3, h4, g1, g2, g3, g4, g5, g6]
def isCode : Jvm.Cond → Bool
  | .code _ _ _ _ => true
  | _ => false
theorem all_split {L : List Jvm.Cond} {P : Jvm.Cond → Bool} (h1 : L.all (fun c => isCode c || P c) = true) (h2 : ∀ c ∈ L.filter isCode, P c = true) : L.all P = true := by
  refine List.all_eq_true.mpr fun c hc => ?_
  have h := List.all_eq_true.mp h1 c hc
  rcases Bool.eq_false_or_eq_true (isCode c) with hi | hi
  · exact h2 c (List.mem_filter.mpr ⟨hc, hi⟩)
  · simpa [hi] using h
set_option maxRecDepth 65536 in
theorem w_c0 : (Jvm.Cond.code x code maxLocals ret).before args0 about1 = true := code_word (m := ⟨1, 1⟩) (meth := k1m1) (c := k1c1) (by decide +kernel) rfl rfl rfl (by decide +kernel)
set_option maxRecDepth 65536 in
theorem w_c1 : (Jvm.Cond.code ({ cls := "com/example/wudaokou/wudaokou/model/SensitiveCallIsNamedByPinLaw", name := "behaviour", desc := "(I)Lcom/example/wudaokou/wudaokou/model/Behaviour;" } : Jvm.MethodName) method_3_code (1 : Nat) (Option.some (Jvm.ClassFile.FieldType.object "com/example/wudaokou/wudaokou/model/Behaviour"))).before args0 about1 = true := code_word (m := ⟨1, 2⟩) (meth := k1m2) (c := k1c2) (by decide +kernel) rfl rfl rfl (by decide +kernel)
set_option maxRecDepth 65536 in
theorem w_c2 : (Jvm.Cond.code ({ cls := "com/example/wudaokou/wudaokou/model/SensitiveCallIsNamedByPinLaw", name := "str", desc := "(I)Ljava/lang/String;" } : Jvm.MethodName) method_4_code (5 : Nat) (Option.some (Jvm.ClassFile.FieldType.object "java/lang/String"))).before args0 about1 = true := code_word (m := ⟨1, 3⟩) (meth := k1m3) (c := k1c3) (by decide +kernel) rfl rfl rfl (by decide +kernel)
set_option maxRecDepth 65536 in
theorem w_c3 : (Jvm.Cond.code ({ cls := "java/lang/String", name := "<init>", desc := "([C)V" } : Jvm.MethodName) jdk_42_method_3_code (2 : Nat) (Option.none : Option Jvm.ClassFile.FieldType)).before args0 about1 = true := code_word (m := ⟨9, 1⟩) (meth := k9m1) (c := k9c1) (by decide +kernel) rfl rfl rfl (by decide +kernel)
set_option maxRecDepth 65536 in
theorem w_c4 : (Jvm.Cond.code ({ cls := "java/lang/String", name := "<init>", desc := "([CIILjava/lang/Void;)V" } : Jvm.MethodName) jdk_42_method_149_code (6 : Nat) (Option.none : Option Jvm.ClassFile.FieldType)).before args0 about1 = true := code_word (m := ⟨9, 3⟩) (meth := k9m3) (c := k9c3) (by decide +kernel) rfl rfl rfl (by decide +kernel)
set_option maxRecDepth 65536 in
theorem w_c5 : (Jvm.Cond.code ({ cls := "java/lang/Object", name := "<init>", desc := "()V" } : Jvm.MethodName) object_method_1_code (1 : Nat) (Option.none : Option Jvm.ClassFile.FieldType)).before args0 about1 = true := code_word (m := ⟨0, 0⟩) (meth := k0m0) (c := k0c0) (by decide +kernel) rfl rfl rfl (by decide +kernel)
set_option maxRecDepth 65536 in
theorem w_c6 : (Jvm.Cond.code ({ cls := "com/example/wudaokou/wudaokou/model/SensitiveCall", name := "<init>", desc := "(Lcom/example/wudaokou/wudaokou/model/Behaviour;Ljava/lang/String;Ljava/lang/String;Ljava/lang/String;)V" } : Jvm.MethodName) prog_16_method_1_code (5 : Nat) (Option.none : Option Jvm.ClassFile.FieldType)).before args0 about1 = true := code_word (m := ⟨12, 0⟩) (meth := k12m0) (c := k12c0) (by decide +kernel) rfl rfl rfl (by decide +kernel)
set_option maxRecDepth 65536 in
theorem w_c7 : (Jvm.Cond.code ({ cls := "java/lang/Record", name := "<init>", desc := "()V" } : Jvm.MethodName) jdk_30_method_1_code (1 : Nat) (Option.none : Option Jvm.ClassFile.FieldType)).before args0 about1 = true := code_word (m := ⟨10, 0⟩) (meth := k10m0) (c := k10c0) (by decide +kernel) rfl rfl rfl (by decide +kernel)
set_option maxRecDepth 65536 in
theorem w_c8 : (Jvm.Cond.code ({ cls := "com/example/wudaokou/wudaokou/model/SensitiveCall", name := "isNamedBy", desc := "(Ljava/lang/String;Ljava/lang/String;)Z" } : Jvm.MethodName) prog_16_method_2_code (3 : Nat) (Option.some Jvm.ClassFile.FieldType.boolean)).before args0 about1 = true := code_word (m := ⟨12, 1⟩) (meth := k12m1) (c := k12c1) (by decide +kernel) rfl rfl rfl (by decide +kernel)
set_option maxRecDepth 65536 in
theorem w_c9 : (Jvm.Cond.code ({ cls := "java/lang/String", name := "equals", desc := "(Ljava/lang/Object;)Z" } : Jvm.MethodName) jdk_42_method_66_code (3 : Nat) (Option.some Jvm.ClassFile.FieldType.boolean)).before args0 about1 = true := code_word (m := ⟨9, 2⟩) (meth := k9m2) (c := k9c2) (by decide +kernel) rfl rfl rfl (by decide +kernel)
set_option maxRecDepth 65536 in
theorem w_c10 : (Jvm.Cond.code ({ cls := "java/lang/StringLatin1", name := "equals", desc := "([B[B)Z" } : Jvm.MethodName) jdk_43_method_13_code (3 : Nat) (Option.some Jvm.ClassFile.FieldType.boolean)).before args0 about1 = true := code_word (m := ⟨13, 1⟩) (meth := k13m1) (c := k13c1) (by decide +kernel) rfl rfl rfl (by decide +kernel)
set_option maxRecDepth 65536 in
theorem w_c11 : (Jvm.Cond.code ({ cls := "com/example/wudaokou/wudaokou/model/SensitiveCallIsNamedByPinLaw", name := "same", desc := "(II)Z" } : Jvm.MethodName) method_5_code (3 : Nat) (Option.some Jvm.ClassFile.FieldType.boolean)).before args0 about1 = true := code_word (m := ⟨1, 4⟩) (meth := k1m4) (c := k1c4) (by decide +kernel) rfl rfl rfl (by decide +kernel)
set_option maxRecDepth 65536 in
theorem w_c12 : (Jvm.Cond.code ({ cls := "java/lang/StringUTF16", name := "compress", desc := "([CII)[B" } : Jvm.MethodName) jdk_52_method_16_code (6 : Nat) (Option.some (Jvm.ClassFile.FieldType.array Jvm.ClassFile.FieldType.byte))).before args0 about1 = true := code_word (m := ⟨14, 2⟩) (meth := k14m2) (c := k14c2) (by decide +kernel) rfl rfl rfl (by decide +kernel)
set_option maxRecDepth 65536 in
theorem w_c13 : (Jvm.Cond.code ({ cls := "java/lang/StringUTF16", name := "compress", desc := "([CI[BII)I" } : Jvm.MethodName) jdk_52_method_21_code (7 : Nat) (Option.some Jvm.ClassFile.FieldType.int)).before args0 about1 = true := code_word (m := ⟨14, 3⟩) (meth := k14m3) (c := k14c3) (by decide +kernel) rfl rfl rfl (by decide +kernel)
set_option maxRecDepth 65536 in
theorem w_c14 : (Jvm.Cond.code ({ cls := "java/lang/StringUTF16", name := "coderFromArrayLen", desc := "([BI)B" } : Jvm.MethodName) jdk_52_method_15_code (2 : Nat) (Option.some Jvm.ClassFile.FieldType.byte)).before args0 about1 = true := code_word (m := ⟨14, 1⟩) (meth := k14m1) (c := k14c1) (by decide +kernel) rfl rfl rfl (by decide +kernel)
def codes1 : List Jvm.Cond := [Jvm.Cond.code x code maxLocals ret, Jvm.Cond.code ({ cls := "com/example/wudaokou/wudaokou/model/SensitiveCallIsNamedByPinLaw", name := "behaviour", desc := "(I)Lcom/example/wudaokou/wudaokou/model/Behaviour;" } : Jvm.MethodName) method_3_code (1 : Nat) (Option.some (Jvm.ClassFile.FieldType.object "com/example/wudaokou/wudaokou/model/Behaviour")), Jvm.Cond.code ({ cls := "com/example/wudaokou/wudaokou/model/SensitiveCallIsNamedByPinLaw", name := "str", desc := "(I)Ljava/lang/String;" } : Jvm.MethodName) method_4_code (5 : Nat) (Option.some (Jvm.ClassFile.FieldType.object "java/lang/String")), Jvm.Cond.code ({ cls := "java/lang/String", name := "<init>", desc := "([C)V" } : Jvm.MethodName) jdk_42_method_3_code (2 : Nat) (Option.none : Option Jvm.ClassFile.FieldType), Jvm.Cond.code ({ cls := "java/lang/String", name := "<init>", desc := "([CIILjava/lang/Void;)V" } : Jvm.MethodName) jdk_42_method_149_code (6 : Nat) (Option.none : Option Jvm.ClassFile.FieldType), Jvm.Cond.code ({ cls := "java/lang/Object", name := "<init>", desc := "()V" } : Jvm.MethodName) object_method_1_code (1 : Nat) (Option.none : Option Jvm.ClassFile.FieldType), Jvm.Cond.code ({ cls := "com/example/wudaokou/wudaokou/model/SensitiveCall", name := "<init>", desc := "(Lcom/example/wudaokou/wudaokou/model/Behaviour;Ljava/lang/String;Ljava/lang/String;Ljava/lang/String;)V" } : Jvm.MethodName) prog_16_method_1_code (5 : Nat) (Option.none : Option Jvm.ClassFile.FieldType), Jvm.Cond.code ({ cls := "java/lang/Record", name := "<init>", desc := "()V" } : Jvm.MethodName) jdk_30_method_1_code (1 : Nat) (Option.none : Option Jvm.ClassFile.FieldType), Jvm.Cond.code ({ cls := "com/example/wudaokou/wudaokou/model/SensitiveCall", name := "isNamedBy", desc := "(Ljava/lang/String;Ljava/lang/String;)Z" } : Jvm.MethodName) prog_16_method_2_code (3 : Nat) (Option.some Jvm.ClassFile.FieldType.boolean), Jvm.Cond.code ({ cls := "java/lang/String", name := "equals", desc := "(Ljava/lang/Object;)Z" } : Jvm.MethodName) jdk_42_method_66_code (3 : Nat) (Option.some Jvm.ClassFile.FieldType.boolean), Jvm.Cond.code ({ cls := "java/lang/StringLatin1", name := "equals", desc := "([B[B)Z" } : Jvm.MethodName) jdk_43_method_13_code (3 : Nat) (Option.some Jvm.ClassFile.FieldType.boolean), Jvm.Cond.code ({ cls := "com/example/wudaokou/wudaokou/model/SensitiveCallIsNamedByPinLaw", name := "same", desc := "(II)Z" } : Jvm.MethodName) method_5_code (3 : Nat) (Option.some Jvm.ClassFile.FieldType.boolean), Jvm.Cond.code ({ cls := "java/lang/StringUTF16", name := "compress", desc := "([CII)[B" } : Jvm.MethodName) jdk_52_method_16_code (6 : Nat) (Option.some (Jvm.ClassFile.FieldType.array Jvm.ClassFile.FieldType.byte)), Jvm.Cond.code ({ cls := "java/lang/StringUTF16", name := "compress", desc := "([CI[BII)I" } : Jvm.MethodName) jdk_52_method_21_code (7 : Nat) (Option.some Jvm.ClassFile.FieldType.int), Jvm.Cond.code ({ cls := "java/lang/StringUTF16", name := "coderFromArrayLen", desc := "([BI)B" } : Jvm.MethodName) jdk_52_method_15_code (2 : Nat) (Option.some Jvm.ClassFile.FieldType.byte)]
set_option maxRecDepth 65536 in
theorem codes_eq : words1.filter isCode = codes1 := rfl
theorem w_codes : ∀ c ∈ words1.filter isCode, c.before args0 about1 = true := by
  rw [codes_eq]
  intro c hc
  simp only [codes1, List.mem_cons, List.not_mem_nil, or_false] at hc
  rcases hc with rfl | rfl | rfl | rfl | rfl | rfl | rfl | rfl | rfl | rfl | rfl | rfl | rfl | rfl | rfl
  · exact w_c0
  · exact w_c1
  · exact w_c2
  · exact w_c3
  · exact w_c4
  · exact w_c5
  · exact w_c6
  · exact w_c7
  · exact w_c8
  · exact w_c9
  · exact w_c10
  · exact w_c11
  · exact w_c12
  · exact w_c13
  · exact w_c14
set_option maxRecDepth 65536 in
theorem w_t1 : (words1.take 24).all (fun c => isCode c || c.before args0 about1) = true := by decide +kernel
set_option maxRecDepth 65536 in
theorem w_t2 : ((words1.drop 24).take 24).all (fun c => isCode c || c.before args0 about1) = true := by decide +kernel
set_option maxRecDepth 65536 in
theorem w_t3 : (((words1.drop 24).drop 24).take 24).all (fun c => isCode c || c.before args0 about1) = true := by decide +kernel
set_option maxRecDepth 65536 in
theorem w_t4 : (((words1.drop 24).drop 24).drop 24).all (fun c => isCode c || c.before args0 about1) = true := by decide +kernel
theorem w_tables : (allAtoms (Jvm.Cond.code x code maxLocals ret :: tables_1)).before args0 about1 = true := by
  rw [allAtoms_all]
  show words1.all (fun c => c.before args0 about1) = true
  refine all_split ?_ w_codes
  rw [← List.take_append_drop 24 words1, List.all_append, w_t1, ← List.take_append_drop 24 (words1.drop 24), List.all_append, w_t2, ← List.take_append_drop 24 ((words1.drop 24).drop 24), List.all_append, w_t3, w_t4]
  rfl
set_option maxRecDepth 65536 in
theorem w_rest : rest_1_c.before args0 about1 = true := by decide +kernel
set_option maxRecDepth 65536 in
theorem w_case : (Jvm.Cond.and given_1 narrow_1).before args0 about1 = true := by decide +kernel
set_option maxRecDepth 65536 in
theorem w_consts : constsHeld consts_1 about1 := Jvm.Lit.constsHeldB_iff.mp (by decide +kernel)
theorem w_applies : (headSpec (Jvm.Cond.code x code maxLocals ret :: tables_1) room_1).applies x e0.platform about1 = true :=
  (Spec.applies_iff w_frames).mpr ⟨w_running, w_runnable, w_alone, w_named, w_hears, w_ripe, w_room, w_tables⟩
theorem atStart : AtStart classFile x code maxLocals ret World_1 tables_1 room_1 Calls_1 rest_1 Pre_1 launch0 p0 e0 about1 theMethod args0 below0 :=
  ⟨lists_1, trivial, launch0.admits_env _ _ _, launch0.least_env, fairChoices_fair.cas, fairChoices_fair.clock, w_frames, w_args, w_heap, w_applies, ⟨w_consts, trivial⟩, w_rest, w_case⟩
end start1
theorem witness_1 : WitnessClaimed_1 := ⟨start1.p0, start1.e0, start1.about1, start1.theMethod, start1.args0, start1.below0, start1.atStart⟩
end Jvm.Pilot.@@N@@
