import JvmDerived
import JvmDerived.Pilot.@@N@@Statement
import JvmDerived.Pilot.@@N@@Code
set_option linter.unusedVariables false
set_option linter.unusedSimpArgs false
/- laws to paste: Road.backV, Road.eqW, Road.codOf (cut by pick.py; bodies as the Statement names them) -/
namespace Jvm.Pilot.@@N@@
namespace StrChars
open Jvm Sem ClassFile Op Lib Jvm.Stand Jvm.Free.XT Jvm.Free.ALB Jvm.Free.JM Jvm.Free
open Jvm.Lib.Cold (StaticIs)
/-- a char array whose places are chars -/
def Ch (a : Addr) (A : Cell) (U : State) : Prop := Arr .char a A U ∧ Typed .char A
theorem Ch.mv {a : Addr} {A : Cell} {U U' : State} (h : Ch a A U) (hal : U.vm.Alike U'.vm) (hh : U'.heap = U.heap) : Ch a A U' := ⟨h.1.mv hal hh, h.2⟩
theorem Ch.keep {a : Addr} {A : Cell} {U U' : State} (h : Ch a A U) (hal : U.vm.Alike U'.vm) (hk : U'.heap[a]? = some A) : Ch a A U' := ⟨h.1.keep hal hk, h.2⟩
/-- what place i of a char[]'s cell holds -/
def cv (A : Cell) (i : Nat) : Int32 := match A.slots[i]? with | some (.int x) => x | _ => 0
theorem Ch.get {a : Addr} {A : Cell} {U : State} (h : Ch a A U) {i : Nat} (hi : i < A.slots.size) : A.slots[i]? = some (.int (cv A i)) := by
  have e := Array.getElem?_eq_getElem hi
  have f := h.2 i _ e
  unfold cv; rw [e]
  generalize A.slots[i] = v at f
  cases v <;> simp [fits] at f ⊢
/-- the byte that i2b leaves of a char -/
def lo8 (x : Int32) : Int32 := x.toInt8.toInt32
theorem fits_lo8 (y : Int32) : fits .byte (.int (lo8 y)) = true := by
  have h1 := y.toInt8.le_toInt
  have h2 := y.toInt8.toInt_lt
  simp only [lo8, fits, Bool.and_eq_true, decide_eq_true_eq, Int32.le_iff_toInt_le, Int8.toInt_toInt32, show (-128 : Int32).toInt = -128 from by decide, show (127 : Int32).toInt = 127 from by decide]
  omega
/-- A' is A but that each place j of lo .. hi - 1 holds f j -/
def Laid (A A' : Cell) (lo hi : Nat) (f : Nat → Value) : Prop := A'.cls = A.cls ∧ A'.vm = A.vm ∧ A'.slots.size = A.slots.size ∧ ∀ i, A'.slots[i]? = if lo ≤ i ∧ i < hi then some (f i) else A.slots[i]?
theorem Laid.zero (A : Cell) (lo : Nat) (f : Nat → Value) : Laid A A lo (lo + 0) f := ⟨rfl, rfl, rfl, fun i => by rw [if_neg (by omega)]⟩
theorem Laid.step {A Ak : Cell} {lo k : Nat} {f : Nat → Value} {v : Value} (h : Laid A Ak lo k f) (hlo : lo ≤ k) (hk : k < Ak.slots.size) (hv : v = f k) : Laid A (Ak.setSlot k v) lo (k + 1) f := by
  refine ⟨h.1, h.2.1, by simpa [Cell.setSlot] using h.2.2.1, fun i => ?_⟩
  by_cases e : k = i
  · subst e; rw [Cell.slots_setSlot_self v hk, if_pos (by omega), hv]
  · rw [Cell.slots_setSlot_ne v e, h.2.2.2 i]
    by_cases q : lo ≤ i ∧ i < k
    · rw [if_pos q, if_pos (by omega)]
    · rw [if_neg q, if_neg (by omega)]
def U16 : String := "java/lang/StringUTF16"
namespace Cmp5
def yN : MethodName := ⟨"java/lang/StringUTF16", "compress", "([CI[BII)I"⟩
abbrev yB : ByteArray := jdk_52_method_21_code
theorem d0 : decode yB 0 = .ok (.iconst 0, 1) := by decide +kernel
theorem d1 : decode yB 1 = .ok (.istore 5, 2) := by decide +kernel
theorem d3 : decode yB 3 = .ok (.iload 5, 2) := by decide +kernel
theorem d5 : decode yB 5 = .ok (.iload 4, 2) := by decide +kernel
theorem d7 : decode yB 7 = .ok (.if_icmp (.ge) 37, 3) := by decide +kernel
theorem d10 : decode yB 10 = .ok (.aload_n 0, 1) := by decide +kernel
theorem d11 : decode yB 11 = .ok (.iload_n 1, 1) := by decide +kernel
theorem d12 : decode yB 12 = .ok (.caload, 1) := by decide +kernel
theorem d13 : decode yB 13 = .ok (.istore 6, 2) := by decide +kernel
theorem d15 : decode yB 15 = .ok (.iload 6, 2) := by decide +kernel
theorem d17 : decode yB 17 = .ok (.sipush 255, 3) := by decide +kernel
theorem d20 : decode yB 20 = .ok (.if_icmp (.le) 6, 3) := by decide +kernel
theorem d26 : decode yB 26 = .ok (.aload_n 2, 1) := by decide +kernel
theorem d27 : decode yB 27 = .ok (.iload_n 3, 1) := by decide +kernel
theorem d28 : decode yB 28 = .ok (.iload 6, 2) := by decide +kernel
theorem d30 : decode yB 30 = .ok (.i2b, 1) := by decide +kernel
theorem d31 : decode yB 31 = .ok (.bastore, 1) := by decide +kernel
theorem d32 : decode yB 32 = .ok (.iinc 1 1, 3) := by decide +kernel
theorem d35 : decode yB 35 = .ok (.iinc 3 1, 3) := by decide +kernel
theorem d38 : decode yB 38 = .ok (.iinc 5 1, 3) := by decide +kernel
theorem d41 : decode yB 41 = .ok (.goto (-38), 3) := by decide +kernel
theorem d44 : decode yB 44 = .ok (.iload 4, 2) := by decide +kernel
theorem d46 : decode yB 46 = .ok (.ireturn, 1) := by decide +kernel
def site : List Cond := []
def tab : Cond := tabOf yN yB 7 (some .int) site
def P (b : Addr) (A : Cell) (d : Addr) (B : Cell) (o q len : Nat) (args : Array Value) (s : State) : Prop := args = #[.ref b, .int (Int32.ofNat o), .ref d, .int (Int32.ofNat q), .int (Int32.ofNat len)] ∧ Ch b A s ∧ Arr .byte d B s ∧ b ≠ d ∧ o + len ≤ A.slots.size ∧ q + len ≤ B.slots.size ∧ ∀ i, i < len → ¬ 255 < cv A (o + i)
def E (b : Addr) (A : Cell) (d : Addr) (B : Cell) (o q len : Nat) (r : Option Value) (s u : State) : Prop := r = some (.int (Int32.ofNat len)) ∧ ∃ B', Put d B' s u ∧ Laid B B' q (q + len) (fun j => Value.int (lo8 (cv A (o + (j - q)))))
/-- no char of the range above 255: len; the places written hold each char's low byte -/
theorem law (l : Launch) (b : Addr) (A : Cell) (d : Addr) (B : Cell) (o q len : Nat) : Law l yN 5 5 0 0 yB 7 (some .int) site (P b A d B o q len) (E b A d B o q len) (copyLocs d q len) 0 0 := by
  refine Law.of_walk (plainFor_of_name (by decide +kernel)) (by decide +kernel) (by decide +kernel) (by decide) (fun _ _ h => by rw [h.1]; rfl) (fun _ U U' hal hh h => ⟨h.1, h.2.1.mv hal hh, h.2.2.1.mv hal hh, h.2.2.2⟩) (fun r U U' V V' h1 hal h2 h => ⟨h.1, h.2.elim fun B' q => ⟨B', q.1.mv h1 h2, q.2⟩⟩) ?_
  intro p e s m args below meth c s₁ X0 hexec hbytes hml hret hlk hnm hown hh0 W hP
  obtain ⟨rfl, hA, hB, hne, l1, l2, hp⟩ := hP
  have c1 : Steps p.tables e below (s₁.setTop (entryFrame m #[.ref b, .int (Int32.ofNat o), .ref d, .int (Int32.ofNat q), .int (Int32.ofNat len)] 7)) (s₁.setTop (mkF m 0 #[.val (.ref b), .val (.int (Int32.ofNat o)), .val (.ref d), .val (.int (Int32.ofNat q)), .val (.int (Int32.ofNat len)), .unset, .unset] [])) := entry rfl
  have hA0 := hA.1.mv X0.warmed.alike hh0
  have hB0 := hB.mv X0.warmed.alike hh0
  have a31 := hA.1.2.2.2
  have c2 : Steps p.tables e below (s₁.setTop (entryFrame m #[.ref b, .int (Int32.ofNat o), .ref d, .int (Int32.ofNat q), .int (Int32.ofNat len)] 7)) (s₁.setTop (mkF m 3 #[.val (.ref b), .val (.int (Int32.ofNat o)), .val (.ref d), .val (.int (Int32.ofNat q)), .val (.int (Int32.ofNat len)), .val (.int 0), .unset] [])) := c1.trans (by
    refine iconstV X0.here hexec rfl 0 (hb hbytes d0) (by decide) ?_
    refine XS.istore X0.here hexec rfl (hb hbytes d1) rfl rfl ?_
    exact Steps.refl _)
  have loop : ∀ (r i : Nat), i + r = len → ∀ (z : Slot), (z = .unset ∨ ∃ w, z = .val w ∧ w.category = 1) → ∀ (Tl : State) (Bk : Cell), Stand p l e { frames := 0, locals := 0, cells := 0, slots := 0 } s m #[.ref b, .int (Int32.ofNat o), .ref d, .int (Int32.ofNat q), .int (Int32.ofNat len)] below meth c Tl ([] ++ copyLocs d q i) 0 0 → Put d Bk s₁ Tl → Laid B Bk q (q + i) (fun j => Value.int (lo8 (cv A (o + (j - q))))) →
      Steps p.tables e below (s₁.setTop (entryFrame m #[.ref b, .int (Int32.ofNat o), .ref d, .int (Int32.ofNat q), .int (Int32.ofNat len)] 7)) (Tl.setTop (mkF m 3 #[.val (.ref b), .val (.int (Int32.ofNat (o + i))), .val (.ref d), .val (.int (Int32.ofNat (q + i))), .val (.int (Int32.ofNat len)), .val (.int (Int32.ofNat i)), z] [])) → ∃ (T' : State) (B' : Cell) (z' : Slot), Stand p l e { frames := 0, locals := 0, cells := 0, slots := 0 } s m #[.ref b, .int (Int32.ofNat o), .ref d, .int (Int32.ofNat q), .int (Int32.ofNat len)] below meth c T' ([] ++ copyLocs d q len) 0 0 ∧ Put d B' s₁ T' ∧ Laid B B' q (q + len) (fun j => Value.int (lo8 (cv A (o + (j - q))))) ∧
      Steps p.tables e below (s₁.setTop (entryFrame m #[.ref b, .int (Int32.ofNat o), .ref d, .int (Int32.ofNat q), .int (Int32.ofNat len)] 7)) (T'.setTop (mkF m 3 #[.val (.ref b), .val (.int (Int32.ofNat (o + len))), .val (.ref d), .val (.int (Int32.ofNat (q + len))), .val (.int (Int32.ofNat len)), .val (.int (Int32.ofNat len)), z'] [])) := by
    intro r
    induction r with
    | zero =>
      intro i hi z hz Tl Bk Xl pl fl cl
      have hil : i = len := by omega
      rw [hil] at Xl fl cl
      exact ⟨Tl, Bk, z, Xl, pl, fl, cl⟩
    | succ r ih =>
      intro i hi z hz Tl Bk Xl pl fl cl
      have all := X0.warmed.alike.symm.trans Xl.warmed.alike
      have hAl := hA0.keep all (pl.other hne hA0.1)
      have hBk := hB0.like all pl.1 fl.1 fl.2.1 fl.2.2.1
      have hlt : q + i < Bk.slots.size := by rw [fl.2.2.1]; omega
      have c3 : Steps p.tables e below (s₁.setTop (entryFrame m #[.ref b, .int (Int32.ofNat o), .ref d, .int (Int32.ofNat q), .int (Int32.ofNat len)] 7)) (Tl.setTop (mkF m 12 #[.val (.ref b), .val (.int (Int32.ofNat (o + i))), .val (.ref d), .val (.int (Int32.ofNat (q + i))), .val (.int (Int32.ofNat len)), .val (.int (Int32.ofNat i)), z] [.int (Int32.ofNat (o + i)), .ref b])) := cl.trans (by
        refine XS.iload Xl.here hexec rfl (hb hbytes d3) rfl ?_
        refine XS.iload Xl.here hexec rfl (hb hbytes d5) rfl ?_
        refine XS.icmpNo Xl.here hexec rfl (hb hbytes d7) rfl (ii_ge_f (lt32 (by omega) (by omega))) ?_
        refine XS.aloadN Xl.here hexec rfl (hb hbytes d10) rfl rfl ?_
        refine XS.iloadN Xl.here hexec rfl (hb hbytes d11) rfl ?_
        exact Steps.refl _)
      have c4 : Steps p.tables e below (s₁.setTop (entryFrame m #[.ref b, .int (Int32.ofNat o), .ref d, .int (Int32.ofNat q), .int (Int32.ofNat len)] 7)) (Tl.setTop (mkF m 13 #[.val (.ref b), .val (.int (Int32.ofNat (o + i))), .val (.ref d), .val (.int (Int32.ofNat (q + i))), .val (.int (Int32.ofNat len)), .val (.int (Int32.ofNat i)), z] [.int (cv A (o + i))])) := c3.trans (by
        refine Xl.aget hexec hAl rfl (hA.get (i := o + i) (by omega)) rfl rfl (hb hbytes d12) ?_
        exact Steps.refl _)
      have c5 : Steps p.tables e below (s₁.setTop (entryFrame m #[.ref b, .int (Int32.ofNat o), .ref d, .int (Int32.ofNat q), .int (Int32.ofNat len)] 7)) (Tl.setTop (mkF m 15 #[.val (.ref b), .val (.int (Int32.ofNat (o + i))), .val (.ref d), .val (.int (Int32.ofNat (q + i))), .val (.int (Int32.ofNat len)), .val (.int (Int32.ofNat i)), .val (.int (cv A (o + i)))] [])) := c4.trans (by
        refine XS.istoreS Xl.here hexec rfl (hb hbytes d13) rfl rfl hz ?_
        exact Steps.refl _)
      have c6 : Steps p.tables e below (s₁.setTop (entryFrame m #[.ref b, .int (Int32.ofNat o), .ref d, .int (Int32.ofNat q), .int (Int32.ofNat len)] 7)) (Tl.setTop (mkF m 31 #[.val (.ref b), .val (.int (Int32.ofNat (o + i))), .val (.ref d), .val (.int (Int32.ofNat (q + i))), .val (.int (Int32.ofNat len)), .val (.int (Int32.ofNat i)), .val (.int (cv A (o + i)))] [.int (lo8 (cv A (o + i))), .int (Int32.ofNat (q + i)), .ref d])) := c5.trans (by
        refine XS.iload Xl.here hexec rfl (hb hbytes d15) rfl ?_
        refine sipushV Xl.here hexec rfl 255 (hb hbytes d17) (by decide) ?_
        refine XS.icmpYes Xl.here hexec rfl (pc0 := 20) rfl (hb hbytes d20) rfl (ii_le_t (hp i (by omega))) (by decide) rfl ?_
        refine XS.aloadN Xl.here hexec rfl (hb hbytes d26) rfl rfl ?_
        refine XS.iloadN Xl.here hexec rfl (hb hbytes d27) rfl ?_
        refine XS.iload Xl.here hexec rfl (hb hbytes d28) rfl ?_
        refine i2b Xl.here hexec rfl (hb hbytes d30) rfl ?_
        exact Steps.refl _)
      obtain ⟨T7, X7, p7, st7⟩ := Xl.aput hexec hBk rfl hlt rfl (fits_lo8 (cv A (o + i))) (g := (mkF m 31 #[.val (.ref b), .val (.int (Int32.ofNat (o + i))), .val (.ref d), .val (.int (Int32.ofNat (q + i))), .val (.int (Int32.ofNat len)), .val (.int (Int32.ofNat i)), .val (.int (cv A (o + i)))] [.int (lo8 (cv A (o + i))), .int (Int32.ofNat (q + i)), .ref d])) rfl (rest := []) rfl (hb hbytes d31)
      have c8 : Steps p.tables e below (s₁.setTop (entryFrame m #[.ref b, .int (Int32.ofNat o), .ref d, .int (Int32.ofNat q), .int (Int32.ofNat len)] 7)) (T7.setTop (mkF m 32 #[.val (.ref b), .val (.int (Int32.ofNat (o + i))), .val (.ref d), .val (.int (Int32.ofNat (q + i))), .val (.int (Int32.ofNat len)), .val (.int (Int32.ofNat i)), .val (.int (cv A (o + i)))] [])) := c6.trans (st7 _ (Steps.refl _))
      have c9 : Steps p.tables e below (s₁.setTop (entryFrame m #[.ref b, .int (Int32.ofNat o), .ref d, .int (Int32.ofNat q), .int (Int32.ofNat len)] 7)) (T7.setTop (mkF m 3 #[.val (.ref b), .val (.int (Int32.ofNat (o + i) + 1)), .val (.ref d), .val (.int (Int32.ofNat (q + i) + 1)), .val (.int (Int32.ofNat len)), .val (.int (Int32.ofNat i + 1)), .val (.int (cv A (o + i)))] [])) := c8.trans (by
        refine iincV X7.here hexec rfl 1 (hb hbytes d32) (by decide) rfl rfl ?_
        refine iincV X7.here hexec rfl 1 (hb hbytes d35) (by decide) rfl rfl ?_
        refine iincV X7.here hexec rfl 1 (hb hbytes d38) (by decide) rfl rfl ?_
        refine XS.goto X7.here hexec rfl (pc0 := 41) rfl (hb hbytes d41) (by decide) rfl ?_
        exact Steps.refl _)
      have c10 : Steps p.tables e below (s₁.setTop (entryFrame m #[.ref b, .int (Int32.ofNat o), .ref d, .int (Int32.ofNat q), .int (Int32.ofNat len)] 7)) (T7.setTop (mkF m 3 #[.val (.ref b), .val (.int (Int32.ofNat (o + (i + 1)))), .val (.ref d), .val (.int (Int32.ofNat (q + (i + 1)))), .val (.int (Int32.ofNat len)), .val (.int (Int32.ofNat (i + 1))), .val (.int (cv A (o + i)))] [])) := by
        have := c9
        rw [succ32, succ32, succ32] at this
        exact this
      exact ih (i + 1) (by omega) _ (Or.inr ⟨_, rfl, rfl⟩) T7 _ (by rw [copyLocs_step, ← List.append_assoc]; exact X7) (pl.trans p7) (fl.step (by omega) hlt (by simp)) c10
  obtain ⟨T9, B9, z9, X9, p9, f9, g9⟩ := loop len 0 (by omega) .unset (Or.inl rfl) s₁ B (by simpa [copyLocs] using X0) ⟨hB0.1, fun _ _ => rfl, rfl⟩ (Laid.zero _ _ _) c2
  have c11 : Steps p.tables e below (s₁.setTop (entryFrame m #[.ref b, .int (Int32.ofNat o), .ref d, .int (Int32.ofNat q), .int (Int32.ofNat len)] 7)) (T9.setTop (mkF m 46 #[.val (.ref b), .val (.int (Int32.ofNat (o + len))), .val (.ref d), .val (.int (Int32.ofNat (q + len))), .val (.int (Int32.ofNat len)), .val (.int (Int32.ofNat len)), z9] [.int (Int32.ofNat len)])) := g9.trans (by
    refine XS.iload X9.here hexec rfl (hb hbytes d3) rfl ?_
    refine XS.iload X9.here hexec rfl (hb hbytes d5) rfl ?_
    refine XS.icmpYes X9.here hexec rfl (pc0 := 7) rfl (hb hbytes d7) rfl (ii_ge_t (nlt32 (by omega) (Nat.le_refl _))) (by decide) rfl ?_
    refine XS.iload X9.here hexec rfl (hb hbytes d44) rfl ?_
    exact Steps.refl _)
  exact ⟨T9, some (.int (Int32.ofNat len)), _, _, _, X9, by simp, rfl, rfl, (fun h => by cases h), ⟨rfl, B9, p9.from hh0, f9⟩, fun fs hl => c11.trans (X9.ireturnOut hexec hret rfl (Or.inl rfl) (hb hbytes d46) hl)⟩
end Cmp5
namespace Cmp3
def yN : MethodName := ⟨"java/lang/StringUTF16", "compress", "([CII)[B"⟩
abbrev yB : ByteArray := jdk_52_method_16_code
theorem d0 : decode yB 0 = .ok (.iload_n 2, 1) := by decide +kernel
theorem d1 : decode yB 1 = .ok (.newarray .byte, 2) := by decide +kernel
theorem d3 : decode yB 3 = .ok (.astore_n 3, 1) := by decide +kernel
theorem d4 : decode yB 4 = .ok (.aload_n 0, 1) := by decide +kernel
theorem d5 : decode yB 5 = .ok (.iload_n 1, 1) := by decide +kernel
theorem d6 : decode yB 6 = .ok (.aload_n 3, 1) := by decide +kernel
theorem d7 : decode yB 7 = .ok (.iconst 0, 1) := by decide +kernel
theorem d8 : decode yB 8 = .ok (.iload_n 2, 1) := by decide +kernel
theorem d9 : decode yB 9 = .ok (.invokestatic 115, 3) := by decide +kernel
theorem d12 : decode yB 12 = .ok (.istore 4, 2) := by decide +kernel
theorem d14 : decode yB 14 = .ok (.iload 4, 2) := by decide +kernel
theorem d16 : decode yB 16 = .ok (.iload_n 2, 1) := by decide +kernel
theorem d17 : decode yB 17 = .ok (.if_icmp (.eq) 40, 3) := by decide +kernel
theorem d57 : decode yB 57 = .ok (.aload_n 3, 1) := by decide +kernel
theorem d58 : decode yB 58 = .ok (.areturn, 1) := by decide +kernel
def site : List Cond := [.arrayClass .byte, Cmp5.tab] ++ staticW U16 115 Cmp5.yN
def tab : Cond := tabOf yN yB 6 (some (.array .byte)) site
def P (b : Addr) (A : Cell) (o len : Nat) (args : Array Value) (s : State) : Prop := args = #[.ref b, .int (Int32.ofNat o), .int (Int32.ofNat len)] ∧ Ch b A s ∧ o + len ≤ A.slots.size ∧ len ≤ 536870912 ∧ ∀ i, i < len → ¬ 255 < cv A (o + i)
def E (b : Addr) (A : Cell) (o len : Nat) (r : Option Value) (s u : State) : Prop := NewArr .byte "[B" len (fun j => .int (lo8 (cv A (o + j)))) r s u ∧ u.heap.size = s.heap.size + 1
/-- no char of the range above 255: a new byte[] of their low bytes -/
theorem law (l : Launch) (b : Addr) (A : Cell) (o len : Nat) : Law l yN 3 3 1 18 yB 6 (some (.array .byte)) site (P b A o len) (E b A o len) [] 1 len := by
  refine Law.of_walk (plainFor_of_name (by decide +kernel)) (by decide +kernel) (by decide +kernel) (by decide) (fun _ _ h => by rw [h.1]; rfl) (fun _ U U' hal hh h => ⟨h.1, h.2.1.mv hal hh, h.2.2⟩) (fun r U U' V V' h1 hal h2 h => ⟨NewArr.mv r U U' V V' h1 hal h2 h.1, by rw [h1, h2]; exact h.2⟩) ?_
  intro p e s m args below meth c s₁ X0 hexec hbytes hml hret hlk hnm hown hh0 W hP
  obtain ⟨rfl, hA, l1, l2, hp⟩ := hP
  have a31 := hA.1.2.2.2
  have c1 : Steps p.tables e below (s₁.setTop (entryFrame m #[.ref b, .int (Int32.ofNat o), .int (Int32.ofNat len)] 6)) (s₁.setTop (mkF m 0 #[.val (.ref b), .val (.int (Int32.ofNat o)), .val (.int (Int32.ofNat len)), .unset, .unset, .unset] [])) := entry rfl
  have c2 : Steps p.tables e below (s₁.setTop (entryFrame m #[.ref b, .int (Int32.ofNat o), .int (Int32.ofNat len)] 6)) (s₁.setTop (mkF m 1 #[.val (.ref b), .val (.int (Int32.ofNat o)), .val (.int (Int32.ofNat len)), .unset, .unset, .unset] [.int (Int32.ofNat len)])) := c1.trans (by
    refine XS.iloadN X0.here hexec rfl (hb hbytes d0) rfl ?_
    exact Steps.refl _)
  obtain ⟨T3, B3, X3, ba3, bs3, bv3, bh3, bf3, st3⟩ := X0.anew hexec (atype := .byte) (wk W (.arrayClass .byte)) rfl (by show len * 1 ≤ _; omega) (by omega) (g := (mkF m 1 #[.val (.ref b), .val (.int (Int32.ofNat o)), .val (.int (Int32.ofNat len)), .unset, .unset, .unset] [.int (Int32.ofNat len)])) rfl (hb hbytes d1) (rest := []) rfl (Nat.le_refl _) (by show 0 + len ≤ len; omega)
  rw [hh0] at ba3 st3
  have kp3 : XT.Kept s T3 := (XT.Kept.of_eq hh0).push bh3
  have hA3 := hA.keep X3.warmed.alike (kp3 _ _ hA.1.1)
  have hne : b ≠ s.heap.size := hA.1.ne
  have c4 : Steps p.tables e below (s₁.setTop (entryFrame m #[.ref b, .int (Int32.ofNat o), .int (Int32.ofNat len)] 6)) (T3.setTop (mkF m 3 #[.val (.ref b), .val (.int (Int32.ofNat o)), .val (.int (Int32.ofNat len)), .unset, .unset, .unset] [.ref s.heap.size])) := c2.trans (st3 _ (Steps.refl _))
  have c5 : Steps p.tables e below (s₁.setTop (entryFrame m #[.ref b, .int (Int32.ofNat o), .int (Int32.ofNat len)] 6)) (T3.setTop (mkF m 9 #[.val (.ref b), .val (.int (Int32.ofNat o)), .val (.int (Int32.ofNat len)), .val (.ref s.heap.size), .unset, .unset] [.int (Int32.ofNat len), .int 0, .ref s.heap.size, .int (Int32.ofNat o), .ref b])) := c4.trans (by
    refine XS.astoreN X3.here hexec rfl (hb hbytes d3) rfl rfl rfl ?_
    refine XS.aloadN X3.here hexec rfl (hb hbytes d4) rfl rfl ?_
    refine XS.iloadN X3.here hexec rfl (hb hbytes d5) rfl ?_
    refine XS.aloadN X3.here hexec rfl (hb hbytes d6) rfl rfl ?_
    refine iconstV X3.here hexec rfl 0 (hb hbytes d7) (by decide) ?_
    refine XS.iloadN X3.here hexec rfl (hb hbytes d8) rfl ?_
    exact Steps.refl _)
  obtain ⟨v6, T6, X6, E6, g6⟩ := X3.callS hexec (Cmp5.law l b A s.heap.size B3 o 0 len) hown (wks W (staticW U16 115 Cmp5.yN)) (wk W Cmp5.tab) (W := 0) (Nat.le_of_ble_eq_true rfl) (Nat.le_of_ble_eq_true rfl) (Nat.le_refl _) (by show 0 + len + 0 ≤ len; omega) (g := (mkF m 9 #[.val (.ref b), .val (.int (Int32.ofNat o)), .val (.int (Int32.ofNat len)), .val (.ref s.heap.size), .unset, .unset] [.int (Int32.ofNat len), .int (Int32.ofNat 0), .ref s.heap.size, .int (Int32.ofNat o), .ref b])) rfl (by rw [hml]; rfl) c5 (argsL := [.ref b, .int (Int32.ofNat o), .ref s.heap.size, .int (Int32.ofNat 0), .int (Int32.ofNat len)]) (rest := []) rfl rfl (by show 2 * 0 + 0 ≤ _; decide) (hb hbytes d9) (⟨rfl, hA3, ba3, hne, l1, by rw [bs3]; simp, hp⟩)
  obtain ⟨rfl, B6, p6, f6⟩ := E6
  have c7 : Steps p.tables e below (s₁.setTop (entryFrame m #[.ref b, .int (Int32.ofNat o), .int (Int32.ofNat len)] 6)) (T6.setTop (mkF m 12 #[.val (.ref b), .val (.int (Int32.ofNat o)), .val (.int (Int32.ofNat len)), .val (.ref s.heap.size), .unset, .unset] [.int (Int32.ofNat len)])) := g6
  have c8 : Steps p.tables e below (s₁.setTop (entryFrame m #[.ref b, .int (Int32.ofNat o), .int (Int32.ofNat len)] 6)) (T6.setTop (mkF m 58 #[.val (.ref b), .val (.int (Int32.ofNat o)), .val (.int (Int32.ofNat len)), .val (.ref s.heap.size), .val (.int (Int32.ofNat len)), .unset] [.ref s.heap.size])) := c7.trans (by
    refine XS.istore X6.here hexec rfl (hb hbytes d12) rfl rfl ?_
    refine XS.iload X6.here hexec rfl (hb hbytes d14) rfl ?_
    refine XS.iloadN X6.here hexec rfl (hb hbytes d16) rfl ?_
    refine XS.icmpYes X6.here hexec rfl (pc0 := 17) rfl (hb hbytes d17) rfl (ii_eq_t rfl) (by decide) rfl ?_
    refine XS.aloadN X6.here hexec rfl (hb hbytes d57) rfl rfl ?_
    exact Steps.refl _)
  have X8 := X6.wide (L' := []) (cells' := 1) (slots' := len) (fun x hx hlt => by
    simp only [List.nil_append, copyLocs, List.mem_map, List.mem_range] at hx
    obtain ⟨i, -, rfl⟩ := hx
    exact absurd hlt (Nat.lt_irrefl _)) (Nat.le_refl _) (by omega)
  exact ⟨T6, some (.ref s.heap.size), _, _, _, X8, rfl, rfl, rfl, (fun h => by cases h), ⟨⟨rfl, B6, ba3.like (X3.warmed.alike.symm.trans X6.warmed.alike) p6.1 f6.1 f6.2.1 f6.2.2.1, f6.2.1.trans bv3, by rw [X6.warmed.alike.findClass, f6.1]; exact bf3, by rw [f6.2.2.1, bs3]; simp, fun j hj => by rw [f6.2.2.2 j, if_pos (by omega)]; rfl, kp3.put p6 (Nat.le_refl _)⟩, by rw [p6.2.2, bh3, hh0]; simp⟩, fun fs hl => c8.trans (X8.areturnOut hexec rfl hret rfl (hb hbytes d58) hl)⟩
end Cmp3
namespace CodL
def yN : MethodName := ⟨"java/lang/StringUTF16", "coderFromArrayLen", "([BI)B"⟩
abbrev yB : ByteArray := jdk_52_method_15_code
theorem d0 : decode yB 0 = .ok (.iload_n 1, 1) := by decide +kernel
theorem d1 : decode yB 1 = .ok (.aload_n 0, 1) := by decide +kernel
theorem d2 : decode yB 2 = .ok (.arraylength, 1) := by decide +kernel
theorem d3 : decode yB 3 = .ok (.isub, 1) := by decide +kernel
theorem d4 : decode yB 4 = .ok (.bipush 31, 2) := by decide +kernel
theorem d6 : decode yB 6 = .ok (.iushr, 1) := by decide +kernel
theorem d7 : decode yB 7 = .ok (.i2b, 1) := by decide +kernel
theorem d8 : decode yB 8 = .ok (.ireturn, 1) := by decide +kernel
def site : List Cond := []
def tab : Cond := tabOf yN yB 2 (some .byte) site
def P (d : Addr) (B : Cell) (args : Array Value) (s : State) : Prop := args = #[.ref d, .int (Int32.ofNat B.slots.size)] ∧ Arr .byte d B s
def E (r : Option Value) (s u : State) : Prop := XT.PureE (some (.int 0)) r s u
/-- an array as long as the number of chars: LATIN1 -/
theorem law (l : Launch) (d : Addr) (B : Cell) : Law l yN 2 2 0 0 yB 2 (some .byte) site (P d B) E [] 0 0 := by
  refine Law.of_walk (plainFor_of_name (by decide +kernel)) (by decide +kernel) (by decide +kernel) (by decide) (fun _ _ h => by rw [h.1]; rfl) (fun _ U U' hal hh h => ⟨h.1, h.2.mv hal hh⟩) (fun r U U' V V' h1 hal h2 h => XT.PureE.mv r U U' V V' h1 hal h2 h) ?_
  intro p e s m args below meth c s₁ X0 hexec hbytes hml hret hlk hnm hown hh0 W hP
  obtain ⟨rfl, hB⟩ := hP
  have hB0 := hB.mv X0.warmed.alike hh0
  have c1 : Steps p.tables e below (s₁.setTop (entryFrame m #[.ref d, .int (Int32.ofNat B.slots.size)] 2)) (s₁.setTop (mkF m 0 #[.val (.ref d), .val (.int (Int32.ofNat B.slots.size))] [])) := entry rfl
  have c2 : Steps p.tables e below (s₁.setTop (entryFrame m #[.ref d, .int (Int32.ofNat B.slots.size)] 2)) (s₁.setTop (mkF m 2 #[.val (.ref d), .val (.int (Int32.ofNat B.slots.size))] [.ref d, .int (Int32.ofNat B.slots.size)])) := c1.trans (by
    refine XS.iloadN X0.here hexec rfl (hb hbytes d0) rfl ?_
    refine XS.aloadN X0.here hexec rfl (hb hbytes d1) rfl rfl ?_
    exact Steps.refl _)
  have c3 : Steps p.tables e below (s₁.setTop (entryFrame m #[.ref d, .int (Int32.ofNat B.slots.size)] 2)) (s₁.setTop (mkF m 8 #[.val (.ref d), .val (.int (Int32.ofNat B.slots.size))] [.int (lo8 (ushr (Int32.ofNat B.slots.size - Int32.ofNat B.slots.size) 31))])) := c2.trans (by
    refine X0.alen hexec hB0 rfl rfl (hb hbytes d2) ?_
    refine XS.isub X0.here hexec rfl (hb hbytes d3) rfl ?_
    refine bipushV X0.here hexec rfl 31 (hb hbytes d4) (by decide) ?_
    refine iushr X0.here hexec rfl (hb hbytes d6) rfl ?_
    refine i2b X0.here hexec rfl (hb hbytes d7) rfl ?_
    exact Steps.refl _)
  have e0 : lo8 (ushr (Int32.ofNat B.slots.size - Int32.ofNat B.slots.size) 31) = 0 := by rw [Int32.sub_self]; decide
  rw [e0] at c3
  exact ⟨s₁, some (.int 0), _, _, _, X0, rfl, rfl, rfl, (fun h => by cases h), ⟨rfl, hh0⟩, fun fs hl => c3.trans (X0.ireturnOut hexec hret rfl (Or.inr (Or.inr (Or.inl rfl))) (hb hbytes d8) hl)⟩
end CodL
/-- the String at a is Latin-1 over a new byte[] (the heap's one new cell): the low bytes of the len chars of A from o on; every cell but a is kept -/
def Got (a : Addr) (D : Cell) (fV fC : Field) (A : Cell) (o len : Nat) (r : Option Value) (s u : State) : Prop := r = none ∧ ∃ D' V : Cell, Blank "java/lang/String" a D' u ∧ Same D D' [fV.slot, fC.slot] ∧ D'.slots[fV.slot]? = some (.ref s.heap.size) ∧ D'.slots[fC.slot]? = some (.int 0) ∧ Arr .byte s.heap.size V u ∧ V.vm = .none ∧ u.vm.findClass "[B" = some V.cls ∧ V.slots.size = len ∧ (∀ j, j < len → V.slots[j]? = some (.int (lo8 (cv A (o + j))))) ∧ (∀ (y : Addr) (c : Cell), y ≠ a → s.heap[y]? = some c → u.heap[y]? = some c) ∧ u.heap.size = s.heap.size + 1
theorem Got.mv {a : Addr} {D A : Cell} {fV fC : Field} {o len : Nat} : ∀ r (U U' V V' : State), U'.heap = U.heap → V.vm.Alike V'.vm → V'.heap = V.heap → Got a D fV fC A o len r U V → Got a D fV fC A o len r U' V' :=
  fun r U U' V V' h1 hal h2 ⟨e0, D', X, a1, a2, a3, a4, a5, a6, a7, a8, a9, a10, a11⟩ => ⟨e0, D', X, a1.mv hal h2, a2, by rw [h1]; exact a3, a4, by rw [h1]; exact a5.mv hal h2, a6, by rw [hal.findClass]; exact a7, a8, a9, by rw [h1, h2]; exact a10, by rw [h1, h2]; exact a11⟩
namespace New4
def yN : MethodName := ⟨"java/lang/String", "<init>", "([CIILjava/lang/Void;)V"⟩
abbrev yB : ByteArray := jdk_42_method_149_code
theorem d0 : decode yB 0 = .ok (.aload_n 0, 1) := by decide +kernel
theorem d1 : decode yB 1 = .ok (.invokespecial 1, 3) := by decide +kernel
theorem d4 : decode yB 4 = .ok (.iload_n 3, 1) := by decide +kernel
theorem d5 : decode yB 5 = .ok (.ifCond (.ne) 22, 3) := by decide +kernel
theorem d27 : decode yB 27 = .ok (.getstatic 38, 3) := by decide +kernel
theorem d30 : decode yB 30 = .ok (.ifCond (.eq) 28, 3) := by decide +kernel
theorem d33 : decode yB 33 = .ok (.aload_n 1, 1) := by decide +kernel
theorem d34 : decode yB 34 = .ok (.iload_n 2, 1) := by decide +kernel
theorem d35 : decode yB 35 = .ok (.iload_n 3, 1) := by decide +kernel
theorem d36 : decode yB 36 = .ok (.invokestatic 177, 3) := by decide +kernel
theorem d39 : decode yB 39 = .ok (.astore 5, 2) := by decide +kernel
theorem d41 : decode yB 41 = .ok (.aload_n 0, 1) := by decide +kernel
theorem d42 : decode yB 42 = .ok (.aload 5, 2) := by decide +kernel
theorem d44 : decode yB 44 = .ok (.iload_n 3, 1) := by decide +kernel
theorem d45 : decode yB 45 = .ok (.invokestatic 47, 3) := by decide +kernel
theorem d48 : decode yB 48 = .ok (.putfield 15, 3) := by decide +kernel
theorem d51 : decode yB 51 = .ok (.aload_n 0, 1) := by decide +kernel
theorem d52 : decode yB 52 = .ok (.aload 5, 2) := by decide +kernel
theorem d54 : decode yB 54 = .ok (.putfield 9, 3) := by decide +kernel
theorem d57 : decode yB 57 = .ok (.return_, 1) := by decide +kernel
def site : List Cond := [.fieldLink "java/lang/String" 38 "java/lang/String" "COMPACT_STRINGS" "Z", Cmp3.tab, CodL.tab, .laysFinal "java/lang/String" "java/lang/String" "value" "[B", .fieldLink "java/lang/String" 9 "java/lang/String" "value" "[B", .laysFinal "java/lang/String" "java/lang/String" "coder" "B", .fieldLink "java/lang/String" 15 "java/lang/String" "coder" "B"] ++ objW "java/lang/String" 1 ++ staticW "java/lang/String" 177 Cmp3.yN ++ staticW "java/lang/String" 47 CodL.yN
def tab : Cond := tabOf yN yB 6 none site
def P (a : Addr) (D : Cell) (fV fC : Field) (b : Addr) (A : Cell) (z : Int32) (o len : Nat) (args : Array Value) (s : State) : Prop := args = #[.ref a, .ref b, .int (Int32.ofNat o), .int (Int32.ofNat len), .null] ∧ Blank "java/lang/String" a D s ∧ Found "java/lang/String" "value" "[B" fV s ∧ Found "java/lang/String" "coder" "B" fC s ∧ Ch b A s ∧ StaticIs s "java/lang/String" "COMPACT_STRINGS" "Z" (.int z) ∧ ¬ z = 0 ∧ 0 < len ∧ o + len ≤ A.slots.size ∧ len ≤ 536870912 ∧ ∀ i, i < len → ¬ 255 < cv A (o + i)
def E (a : Addr) (D : Cell) (fV fC : Field) (A : Cell) (o len : Nat) (r : Option Value) (s u : State) : Prop := Got a D fV fC A o len r s u
/-- len > 0, no char of the range above 255: a Latin-1 String of their low bytes -/
theorem law (l : Launch) (a : Addr) (D : Cell) (fV fC : Field) (b : Addr) (A : Cell) (z : Int32) (o len : Nat) : Law l yN 5 4 2 35 yB 6 none site (P a D fV fC b A z o len) (E a D fV fC A o len) [⟨a, fC.slot⟩, ⟨a, fV.slot⟩] 1 len := by
  refine Law.of_walk (plainFor_of_name (by decide +kernel)) (by decide +kernel) (by decide +kernel) (by decide) (fun _ _ h => by rw [h.1]; rfl) (fun _ U U' hal hh h => ⟨h.1, h.2.1.mv hal hh, h.2.2.1.al hal, h.2.2.2.1.al hal, h.2.2.2.2.1.mv hal hh, h.2.2.2.2.2.1.there hal hh, h.2.2.2.2.2.2⟩) (fun r U U' V V' h1 hal h2 h => Got.mv r U U' V V' h1 hal h2 h) ?_
  intro p e s m args below meth c s₁ X0 hexec hbytes hml hret hlk hnm hown hh0 W hP
  obtain ⟨rfl, hB, f1, f2, hA, s1, hz, l0, l1, l2, hp⟩ := hP
  have a31 := hA.1.2.2.2
  have c1 : Steps p.tables e below (s₁.setTop (entryFrame m #[.ref a, .ref b, .int (Int32.ofNat o), .int (Int32.ofNat len), .null] 6)) (s₁.setTop (mkF m 0 #[.val (.ref a), .val (.ref b), .val (.int (Int32.ofNat o)), .val (.int (Int32.ofNat len)), .val .null, .unset] [])) := entry rfl
  have c2 : Steps p.tables e below (s₁.setTop (entryFrame m #[.ref a, .ref b, .int (Int32.ofNat o), .int (Int32.ofNat len), .null] 6)) (s₁.setTop (mkF m 1 #[.val (.ref a), .val (.ref b), .val (.int (Int32.ofNat o)), .val (.int (Int32.ofNat len)), .val .null, .unset] [.ref a])) := c1.trans (by
    refine XS.aloadN X0.here hexec rfl (hb hbytes d0) rfl rfl ?_
    exact Steps.refl _)
  obtain ⟨T3, X3, q3, st3⟩ := X0.oinit hexec hown (wks W (objW "java/lang/String" 1)) (g := (mkF m 1 #[.val (.ref a), .val (.ref b), .val (.int (Int32.ofNat o)), .val (.int (Int32.ofNat len)), .val .null, .unset] [.ref a])) rfl (by rw [hml]; rfl) (rest := []) rfl (hb hbytes d1) (W := 0) (by show 2 * 0 + 0 ≤ _; decide) (Nat.le_of_ble_eq_true rfl) (Nat.le_of_ble_eq_true rfl)
  have hh3 := q3.trans hh0
  have c4 : Steps p.tables e below (s₁.setTop (entryFrame m #[.ref a, .ref b, .int (Int32.ofNat o), .int (Int32.ofNat len), .null] 6)) (T3.setTop (mkF m 27 #[.val (.ref a), .val (.ref b), .val (.int (Int32.ofNat o)), .val (.int (Int32.ofNat len)), .val .null, .unset] [])) := (c2.trans (st3 _ (Steps.refl _))).trans (by
    refine XS.iloadN X3.here hexec rfl (hb hbytes d4) rfl ?_
    refine XS.ifYes X3.here hexec rfl (pc0 := 5) rfl (hb hbytes d5) rfl (i0_ne_t (nz32 (by omega) l0)) (by decide) rfl ?_
    exact Steps.refl _)
  obtain ⟨T5, X5, q5, st5⟩ := X3.sget hexec hown (wk W (.fieldLink "java/lang/String" 38 "java/lang/String" "COMPACT_STRINGS" "Z")) s1 (fun _ _ h => by rw [hh3]; exact h) (g := (mkF m 27 #[.val (.ref a), .val (.ref b), .val (.int (Int32.ofNat o)), .val (.int (Int32.ofNat len)), .val .null, .unset] [])) rfl (hb hbytes d27)
  have hh5 := q5.trans hh3
  have c6 : Steps p.tables e below (s₁.setTop (entryFrame m #[.ref a, .ref b, .int (Int32.ofNat o), .int (Int32.ofNat len), .null] 6)) (T5.setTop (mkF m 30 #[.val (.ref a), .val (.ref b), .val (.int (Int32.ofNat o)), .val (.int (Int32.ofNat len)), .val .null, .unset] [.int z])) := c4.trans (st5 _ (Steps.refl _))
  have c7 : Steps p.tables e below (s₁.setTop (entryFrame m #[.ref a, .ref b, .int (Int32.ofNat o), .int (Int32.ofNat len), .null] 6)) (T5.setTop (mkF m 36 #[.val (.ref a), .val (.ref b), .val (.int (Int32.ofNat o)), .val (.int (Int32.ofNat len)), .val .null, .unset] [.int (Int32.ofNat len), .int (Int32.ofNat o), .ref b])) := c6.trans (by
    refine XS.ifNo X5.here hexec rfl (hb hbytes d30) rfl (i0_eq_f hz) ?_
    refine XS.aloadN X5.here hexec rfl (hb hbytes d33) rfl rfl ?_
    refine XS.iloadN X5.here hexec rfl (hb hbytes d34) rfl ?_
    refine XS.iloadN X5.here hexec rfl (hb hbytes d35) rfl ?_
    exact Steps.refl _)
  obtain ⟨v8, T8, X8, E8, g8⟩ := X5.callS hexec (Cmp3.law l b A o len) hown (wks W (staticW "java/lang/String" 177 Cmp3.yN)) (wk W Cmp3.tab) (W := 0) (Nat.le_of_ble_eq_true rfl) (Nat.le_of_ble_eq_true rfl) (Nat.le_refl _) (by show 0 + len ≤ len; omega) (g := (mkF m 36 #[.val (.ref a), .val (.ref b), .val (.int (Int32.ofNat o)), .val (.int (Int32.ofNat len)), .val .null, .unset] [.int (Int32.ofNat len), .int (Int32.ofNat o), .ref b])) rfl (by rw [hml]; rfl) c7 (argsL := [.ref b, .int (Int32.ofNat o), .int (Int32.ofNat len)]) (rest := []) rfl rfl (by show 2 * 0 + 0 ≤ _; decide) (hb hbytes d36) (⟨rfl, hA.mv X5.warmed.alike hh5, l1, l2, hp⟩)
  obtain ⟨e8, z8⟩ := E8
  obtain ⟨rfl, N, n1, n2, n3, n4, n5, n6⟩ := NewArr.mv _ T5 s _ _ hh5.symm (Vm.Alike.refl _) rfl e8
  rw [hh5] at z8
  have hB1 := hB.keep X8.warmed.alike (n6 _ _ hB.1)
  have hne : s.heap.size ≠ a := (Nat.ne_of_lt (Array.getElem?_eq_some_iff.mp hB.1).1).symm
  have c9 : Steps p.tables e below (s₁.setTop (entryFrame m #[.ref a, .ref b, .int (Int32.ofNat o), .int (Int32.ofNat len), .null] 6)) (T8.setTop (mkF m 39 #[.val (.ref a), .val (.ref b), .val (.int (Int32.ofNat o)), .val (.int (Int32.ofNat len)), .val .null, .unset] [.ref s.heap.size])) := g8
  have c10 : Steps p.tables e below (s₁.setTop (entryFrame m #[.ref a, .ref b, .int (Int32.ofNat o), .int (Int32.ofNat len), .null] 6)) (T8.setTop (mkF m 45 #[.val (.ref a), .val (.ref b), .val (.int (Int32.ofNat o)), .val (.int (Int32.ofNat len)), .val .null, .val (.ref s.heap.size)] [.int (Int32.ofNat N.slots.size), .ref s.heap.size, .ref a])) := by
    have hc : Steps p.tables e below (s₁.setTop (entryFrame m #[.ref a, .ref b, .int (Int32.ofNat o), .int (Int32.ofNat len), .null] 6)) (T8.setTop (mkF m 45 #[.val (.ref a), .val (.ref b), .val (.int (Int32.ofNat o)), .val (.int (Int32.ofNat len)), .val .null, .val (.ref s.heap.size)] [.int (Int32.ofNat len), .ref s.heap.size, .ref a])) := c9.trans (by
      refine XS.astore X8.here hexec rfl (hb hbytes d39) rfl rfl rfl ?_
      refine XS.aloadN X8.here hexec rfl (hb hbytes d41) rfl rfl ?_
      refine XS.aload X8.here hexec rfl (hb hbytes d42) rfl rfl ?_
      refine XS.iloadN X8.here hexec rfl (hb hbytes d44) rfl ?_
      exact Steps.refl _)
    rw [n4]; exact hc
  obtain ⟨v11, T11, X11, E11, g11⟩ := X8.callS hexec (CodL.law l s.heap.size N) hown (wks W (staticW "java/lang/String" 47 CodL.yN)) (wk W CodL.tab) (W := 1) (Nat.le_of_ble_eq_true rfl) (Nat.le_of_ble_eq_true rfl) (Nat.le_refl _) (by show 0 + len + 0 ≤ len; omega) (g := (mkF m 45 #[.val (.ref a), .val (.ref b), .val (.int (Int32.ofNat o)), .val (.int (Int32.ofNat len)), .val .null, .val (.ref s.heap.size)] [.int (Int32.ofNat N.slots.size), .ref s.heap.size, .ref a])) rfl (by rw [hml]; rfl) c10 (argsL := [.ref s.heap.size, .int (Int32.ofNat N.slots.size)]) (rest := [.ref a]) rfl rfl (by show 2 * 0 + (1 + 0) ≤ _; decide) (hb hbytes d45) (⟨rfl, n1⟩)
  obtain ⟨rfl, q11⟩ := E11
  have hB11 := hB1.mv (X8.warmed.alike.symm.trans X11.warmed.alike) q11
  have c12 : Steps p.tables e below (s₁.setTop (entryFrame m #[.ref a, .ref b, .int (Int32.ofNat o), .int (Int32.ofNat len), .null] 6)) (T11.setTop (mkF m 48 #[.val (.ref a), .val (.ref b), .val (.int (Int32.ofNat o)), .val (.int (Int32.ofNat len)), .val .null, .val (.ref s.heap.size)] [.int 0, .ref a])) := g11
  obtain ⟨T13, X13, p13, bl13, sl13, st13⟩ := X11.finit hexec hown (wk W (.fieldLink "java/lang/String" 15 "java/lang/String" "coder" "B")) (Or.inr ⟨_, (wk W (.laysFinal "java/lang/String" "java/lang/String" "coder" "B"))⟩) (Or.inl ⟨rfl, hnm⟩) f2 (Or.inl rfl) hB11 (t := .byte) (by decide +kernel) rfl (g := (mkF m 48 #[.val (.ref a), .val (.ref b), .val (.int (Int32.ofNat o)), .val (.int (Int32.ofNat len)), .val .null, .val (.ref s.heap.size)] [.int 0, .ref a])) rfl (rest := []) rfl (hb hbytes d48)
  have c14 : Steps p.tables e below (s₁.setTop (entryFrame m #[.ref a, .ref b, .int (Int32.ofNat o), .int (Int32.ofNat len), .null] 6)) (T13.setTop (mkF m 54 #[.val (.ref a), .val (.ref b), .val (.int (Int32.ofNat o)), .val (.int (Int32.ofNat len)), .val .null, .val (.ref s.heap.size)] [.ref s.heap.size, .ref a])) := (c12.trans (st13 _ (Steps.refl _))).trans (by
    refine XS.aloadN X13.here hexec rfl (hb hbytes d51) rfl rfl ?_
    refine XS.aload X13.here hexec rfl (hb hbytes d52) rfl rfl ?_
    exact Steps.refl _)
  obtain ⟨T15, X15, p15, bl15, sl15, st15⟩ := X13.finit hexec hown (wk W (.fieldLink "java/lang/String" 9 "java/lang/String" "value" "[B")) (Or.inr ⟨_, (wk W (.laysFinal "java/lang/String" "java/lang/String" "value" "[B"))⟩) (Or.inl ⟨rfl, hnm⟩) f1 (Or.inl rfl) bl13 (t := (.array .byte)) (by decide +kernel) rfl (g := (mkF m 54 #[.val (.ref a), .val (.ref b), .val (.int (Int32.ofNat o)), .val (.int (Int32.ofNat len)), .val .null, .val (.ref s.heap.size)] [.ref s.heap.size, .ref a])) rfl (rest := []) rfl (hb hbytes d54)
  have c16 : Steps p.tables e below (s₁.setTop (entryFrame m #[.ref a, .ref b, .int (Int32.ofNat o), .int (Int32.ofNat len), .null] 6)) (T15.setTop (mkF m 57 #[.val (.ref a), .val (.ref b), .val (.int (Int32.ofNat o)), .val (.int (Int32.ofNat len)), .val .null, .val (.ref s.heap.size)] [])) := c14.trans (st15 _ (Steps.refl _))
  have ap := apart (Or.inr ⟨_, (wk W (.laysFinal "java/lang/String" "java/lang/String" "value" "[B"))⟩) (Or.inr ⟨_, (wk W (.laysFinal "java/lang/String" "java/lang/String" "coder" "B"))⟩) f1 f2 (t₁ := .array .byte) (t₂ := .byte) (by decide +kernel) (by decide +kernel) (by decide)
  have al := X8.warmed.alike.symm.trans X15.warmed.alike
  have n7 : T11.heap[s.heap.size]? = some N := by rw [q11]; exact n1.1
  exact ⟨T15, none, _, _, _, X15, by simp, rfl, by omega, (fun _ => rfl), ⟨rfl, _, N, bl15, ((Same.refl D _).set _ (by simp)).set _ (by simp), sl15, (Cell.slots_setSlot_ne _ ap).trans sl13, n1.keep al (p15.other hne (p13.other hne n7)), n2, by rw [al.findClass]; exact n3, n4, n5, fun y c h1 h2 => p15.other h1 (p13.other h1 (by rw [q11]; exact n6 y c h2)), by rw [p15.2.2, p13.2.2, q11]; exact z8⟩, fun fs hl => c16.trans (X15.returnOut hexec hret (hb hbytes d57) hl)⟩
end New4
namespace New1
def yN : MethodName := ⟨"java/lang/String", "<init>", "([C)V"⟩
abbrev yB : ByteArray := jdk_42_method_3_code
theorem d0 : decode yB 0 = .ok (.aload_n 0, 1) := by decide +kernel
theorem d1 : decode yB 1 = .ok (.aload_n 1, 1) := by decide +kernel
theorem d2 : decode yB 2 = .ok (.iconst 0, 1) := by decide +kernel
theorem d3 : decode yB 3 = .ok (.aload_n 1, 1) := by decide +kernel
theorem d4 : decode yB 4 = .ok (.arraylength, 1) := by decide +kernel
theorem d5 : decode yB 5 = .ok (.aconst_null, 1) := by decide +kernel
theorem d6 : decode yB 6 = .ok (.invokespecial 27, 3) := by decide +kernel
theorem d9 : decode yB 9 = .ok (.return_, 1) := by decide +kernel
def site : List Cond := [New4.tab] ++ initW "java/lang/String" 27 New4.yN
def tab : Cond := tabOf yN yB 2 none site
def P (a : Addr) (D : Cell) (fV fC : Field) (b : Addr) (A : Cell) (z : Int32) (args : Array Value) (s : State) : Prop := args = #[.ref a, .ref b] ∧ Blank "java/lang/String" a D s ∧ Found "java/lang/String" "value" "[B" fV s ∧ Found "java/lang/String" "coder" "B" fC s ∧ Ch b A s ∧ StaticIs s "java/lang/String" "COMPACT_STRINGS" "Z" (.int z) ∧ ¬ z = 0 ∧ 0 < A.slots.size ∧ A.slots.size ≤ 536870912 ∧ ∀ i, i < A.slots.size → ¬ 255 < cv A i
def E (a : Addr) (D : Cell) (fV fC : Field) (A : Cell) (r : Option Value) (s u : State) : Prop := Got a D fV fC A 0 A.slots.size r s u
/-- new String(chars), not empty, no char above 255: a Latin-1 String of their low bytes -/
theorem law (l : Launch) (a : Addr) (D : Cell) (fV fC : Field) (b : Addr) (A : Cell) (z : Int32) : Law l yN 2 1 3 52 yB 2 none site (P a D fV fC b A z) (E a D fV fC A) [⟨a, fC.slot⟩, ⟨a, fV.slot⟩] 1 A.slots.size := by
  refine Law.of_walk (plainFor_of_name (by decide +kernel)) (by decide +kernel) (by decide +kernel) (by decide) (fun _ _ h => by rw [h.1]; rfl) (fun _ U U' hal hh h => ⟨h.1, h.2.1.mv hal hh, h.2.2.1.al hal, h.2.2.2.1.al hal, h.2.2.2.2.1.mv hal hh, h.2.2.2.2.2.1.there hal hh, h.2.2.2.2.2.2⟩) (fun r U U' V V' h1 hal h2 h => Got.mv r U U' V V' h1 hal h2 h) ?_
  intro p e s m args below meth c s₁ X0 hexec hbytes hml hret hlk hnm hown hh0 W hP
  obtain ⟨rfl, hB, f1, f2, hA, s1, hz, l0, l2, hp⟩ := hP
  have c1 : Steps p.tables e below (s₁.setTop (entryFrame m #[.ref a, .ref b] 2)) (s₁.setTop (mkF m 0 #[.val (.ref a), .val (.ref b)] [])) := entry rfl
  have c2 : Steps p.tables e below (s₁.setTop (entryFrame m #[.ref a, .ref b] 2)) (s₁.setTop (mkF m 6 #[.val (.ref a), .val (.ref b)] [.null, .int (Int32.ofNat A.slots.size), .int 0, .ref b, .ref a])) := c1.trans (by
    refine XS.aloadN X0.here hexec rfl (hb hbytes d0) rfl rfl ?_
    refine XS.aloadN X0.here hexec rfl (hb hbytes d1) rfl rfl ?_
    refine iconstV X0.here hexec rfl 0 (hb hbytes d2) (by decide) ?_
    refine XS.aloadN X0.here hexec rfl (hb hbytes d3) rfl rfl ?_
    refine X0.alen hexec (hA.1.mv X0.warmed.alike hh0) rfl rfl (hb hbytes d4) ?_
    refine XS.aconstNull X0.here hexec rfl (hb hbytes d5) ?_
    exact Steps.refl _)
  obtain ⟨v3, T3, X3, E3, g3⟩ := X0.callN hexec (New4.law l a D fV fC b A z 0 A.slots.size) rfl hown (wks W (initW "java/lang/String" 27 New4.yN)) (W New4.tab (by simp only [site, List.mem_cons, List.mem_append, true_or, or_true])) (W := 0) (Nat.le_of_ble_eq_true rfl) (Nat.le_of_ble_eq_true rfl) (Nat.le_refl _) (by show 0 + A.slots.size ≤ A.slots.size; omega) (g := (mkF m 6 #[.val (.ref a), .val (.ref b)] [.null, .int (Int32.ofNat A.slots.size), .int (Int32.ofNat 0), .ref b, .ref a])) rfl (by rw [hml]; rfl) c2 (argsL := [.ref b, .int (Int32.ofNat 0), .int (Int32.ofNat A.slots.size), .null]) (rest := []) rfl rfl (by show 2 * 0 + 0 ≤ _; decide) (hb hbytes d6) (⟨rfl, hB.mv X0.warmed.alike hh0, f1.al X0.warmed.alike, f2.al X0.warmed.alike, hA.mv X0.warmed.alike hh0, s1.there X0.warmed.alike hh0, hz, l0, by omega, l2, fun i hi => by rw [Nat.zero_add]; exact hp i hi⟩)
  have e0 := Got.mv _ s₁ s _ _ hh0.symm (Vm.Alike.refl _) rfl E3
  obtain rfl := e0.1
  have c4 : Steps p.tables e below (s₁.setTop (entryFrame m #[.ref a, .ref b] 2)) (T3.setTop (mkF m 9 #[.val (.ref a), .val (.ref b)] [])) := g3
  exact ⟨T3, none, _, _, _, X3, by simp, rfl, by omega, (fun _ => rfl), e0, fun fs hl => c4.trans (X3.returnOut hexec hret (hb hbytes d9) hl)⟩
theorem pays {l : Launch} {R : Room} {p : Program} {e : Env} {below : List Frame} {s : State} {sargs : Array Value} {len W : Nat} (a : Addr) (D : Cell) (fV fC : Field) (b : Addr) (A : Cell) (z : Int32) (htab : tab.before sargs s = true) (hfr : 4 ≤ R.frames) (hlo : W + 65 ≤ R.locals) :
    Back l R p e below s sargs yN len W (fun A₁ a₁ => A₁.cells + 1 ≤ R.cells ∧ A₁.slots + A.slots.size ≤ R.slots ∧ P a D fV fC b A z a₁ A₁.U) (fun A₁ _ v₁ B₁ => E a D fV fC A v₁ A₁.U B₁.U ∧ B₁.locs = A₁.locs ++ [⟨a, fC.slot⟩, ⟨a, fV.slot⟩] ∧ B₁.cells = A₁.cells + 1 ∧ B₁.slots = A₁.slots + A.slots.size) :=
  (law l a D fV fC b A z).pays htab hfr (by omega)
end New1
/-- the byte, read back as charAt reads it, is the char -/
theorem lo8_mask {x : Int32} (h0 : ¬ x < 0) (h1 : ¬ 255 < x) : lo8 x &&& 255 = x := by
  have t : ∀ k : Fin 256, lo8 (Int32.ofNat k.val) &&& 255 = Int32.ofNat k.val := by decide +kernel
  rw [Int32.lt_iff_toInt_lt] at h0 h1
  have e0 : (0 : Int32).toInt = 0 := rfl
  have e1 : (255 : Int32).toInt = 255 := rfl
  obtain ⟨k, hk⟩ : ∃ k : Nat, x.toInt = k := ⟨x.toInt.toNat, by omega⟩
  have hx : x = Int32.ofNat k := Int32.toInt_inj.mp (by rw [hk, Int32.toInt_ofNat_small (by omega)])
  rw [hx]
  exact t ⟨k, by omega⟩
end StrChars
namespace StrChars.Road
open Jvm Sem ClassFile Op Lib Jvm.Stand Jvm.Free Jvm.Free.XT
open Jvm.Lib.Cold (StaticIs)
abbrev ST : String := "java/lang/String"
/-- every table word that New1's law asks, flat -/
abbrev words : List Jvm.Cond := [.code New1.yN New1.yB 2 none, .initialized ST, .methodLink ST 27 New4.yN, .instanceMethod New4.yN,
  .code New4.yN New4.yB 6 none, .fieldLink ST 38 ST "COMPACT_STRINGS" "Z", .laysFinal ST ST "value" "[B", .fieldLink ST 9 ST "value" "[B", .laysFinal ST ST "coder" "B", .fieldLink ST 15 ST "coder" "B",
  .methodLink ST 1 Lib.objectInit, .instanceMethod Lib.objectInit, .code Lib.objectInit ⟨#[0xb1]⟩ 1 none, .methodLink ST 177 Cmp3.yN, .static Cmp3.yN, .methodLink ST 47 CodL.yN, .static CodL.yN,
  .code Cmp3.yN Cmp3.yB 6 (some (.array .byte)), .initialized U16, .arrayClass .byte, .methodLink U16 115 Cmp5.yN, .static Cmp5.yN, .code Cmp5.yN Cmp5.yB 7 (some .int), .code CodL.yN CodL.yB 2 (some .byte)]
theorem tab_of {a : Array Value} {s : State} (h : ∀ w ∈ words, w.before a s = true) : New1.tab.before a s = true := by
  have h5 : Cmp5.tab.before a s = true := unparts (wk h (.code Cmp5.yN Cmp5.yB 7 (some .int))) (wks h (.initialized Cmp5.yN.cls :: Cmp5.site))
  have hc : CodL.tab.before a s = true := unparts (wk h (.code CodL.yN CodL.yB 2 (some .byte))) (wks h (.initialized CodL.yN.cls :: CodL.site))
  have q5 : ∀ w ∈ Cmp5.tab :: words, w.before a s = true := fun w hw => (List.mem_cons.mp hw).elim (fun e => e ▸ h5) (h w)
  have h3 : Cmp3.tab.before a s = true := unparts (wk q5 (.code Cmp3.yN Cmp3.yB 6 (some (.array .byte)))) (wks q5 (.initialized Cmp3.yN.cls :: Cmp3.site))
  have q3 : ∀ w ∈ Cmp3.tab :: CodL.tab :: words, w.before a s = true := fun w hw => (List.mem_cons.mp hw).elim (fun e => e ▸ h3) fun hw => (List.mem_cons.mp hw).elim (fun e => e ▸ hc) (h w)
  have h4 : New4.tab.before a s = true := unparts (wk q3 (.code New4.yN New4.yB 6 none)) (wks q3 (.initialized New4.yN.cls :: New4.site))
  have q4 : ∀ w ∈ New4.tab :: words, w.before a s = true := fun w hw => (List.mem_cons.mp hw).elim (fun e => e ▸ h4) (h w)
  exact unparts (wk q4 (.code New1.yN New1.yB 2 none)) (wks q4 (.initialized New1.yN.cls :: New1.site))
/-- the words ride from the start Z to the walk's own state -/
theorem moved {Z s : State} {a0 args : Array Value} (hZ : Z.Warmed39 s.vm) (hw : ∀ d ∈ words, d.before a0 Z = true) : ∀ d ∈ words, d.before args s = true := fun d hd => by
  have q := hw d hd
  have t : ∀ d ∈ words, d = .arrayClass .byte ∨ (d.onTables && d.keepsFace) = true := by decide +kernel
  rcases t d hd with rfl | t
  · exact RoadKit.mvA hZ q
  · exact RoadKit.mv hZ q t
/-- WHAT COMES BACK, over the tables of the start Z: h the heap at the call, h' behind it -/
def Q (Z : State) (x : Addr) (A : Cell) (h : Heap) (v : Option Value) (h' : Heap) (L : List Loc) : Prop := v = none ∧ (∀ y ∈ L, y.base = x) ∧ RoadKit.Keep h h' [x] ∧ h'.size = h.size + 1 ∧ RoadKit.Exa Z h' x ST ∧ RoadKit.Fld Z h' x ST "value" "[B" (.ref h.size) ∧ RoadKit.Fld Z h' x ST "coder" "B" (.int 0) ∧
  (∃ V : Cell, RoadKit.Arr Z h' h.size V .byte ∧ V.vm = .none ∧ Z.vm.findClass "[B" = some V.cls ∧ V.slots.size = A.slots.size ∧ ∀ j, j < A.slots.size → V.slots[j]? = some (.int (lo8 (cv A j)))) ∧
  ∀ (O n d : String) (w : Value), RoadKit.Fld Z h x O n d w → RoadKit.slotOf Z O n d ≠ RoadKit.slotOf Z ST "value" "[B" → RoadKit.slotOf Z O n d ≠ RoadKit.slotOf Z ST "coder" "B" → RoadKit.Fld Z h' x O n d w
/-- **new String(chars) AT A CALL, IN THE ROAD'S FORM**: for specialBack behind newO: x the fresh String, b the char[] with the cell A -/
theorem back {p : Program} {l : Launch} {e : Env} {R : Room} {s : State} {args : Array Value} {below : List Frame} {len W : Nat} {Z : State} {a0 : Array Value} {h : Heap} (hZ : Z.Warmed39 s.vm) (hw : ∀ d ∈ words, d.before a0 Z = true) {kI : Nat} (wi : (Jvm.Cond.instantiable ST kI).before a0 Z = true)
    {x b : Addr} {A : Cell} {z : Int32} {v0 c0 : Value} (E : RoadKit.Exa Z h x ST) (V : RoadKit.Fld Z h x ST "value" "[B" v0) (C : RoadKit.Fld Z h x ST "coder" "B" c0) (K : RoadKit.Arr Z h b A .char) (hty : Typed .char A) (S : RoadKit.Sta Z h ST "COMPACT_STRINGS" "Z" (.int z)) (hz : ¬ z = 0)
    (l0 : 0 < A.slots.size) (l2 : A.slots.size ≤ 536870912) (hp : ∀ i, i < A.slots.size → ¬ 255 < cv A i) (hfr : 4 ≤ R.frames) (hlo : W + 65 ≤ R.locals) :
    Back l R p e below s args New1.yN len W (fun P a => a = #[.ref x, .ref b] ∧ P.U.heap = h ∧ P.cells + 1 ≤ R.cells ∧ P.slots + A.slots.size ≤ R.slots)
      (fun P _ v B => ∃ L, Q Z x A h v B.U.heap L ∧ B.locs = P.locs ++ L ∧ B.cells = P.cells + 1 ∧ B.slots = P.slots + A.slots.size) := by
  intro m meth c P g ig mk a X hg hsize hdg hW hn hp'
  obtain ⟨rfl, rfl, r1, r2⟩ := hp'
  have al : Z.vm.Alike P.U.vm := hZ.alike.trans X.warmed.alike
  obtain ⟨D, cfV, kV, iV, fV, hD, gV, stV, knV, obV, asV, slV⟩ := id V
  obtain ⟨D', cfC, kC, iC, fC, hD', gC, stC, -, -, asC, slC⟩ := id C
  cases hD.symm.trans hD'
  obtain ⟨D2, kD, e1, e2, e3, e4, e5⟩ := id E
  cases hD.symm.trans e1
  obtain ⟨c2, k2, i1, i2, i3, -⟩ := Cond.instantiable_spec wi
  cases e2.symm.trans i1
  cases e3.symm.trans i2
  obtain ⟨kU, u1, u2⟩ := al.2.2 _ _ e3
  have hB : Blank ST x D P.U := ⟨hD, ⟨knV, fun q hq => by rw [hq] at obV; cases obV⟩, by rw [al.findClass]; exact e2, kU, u1, by rw [u2]; exact i3, by rw [u2]; exact e5 i3⟩
  have F1 : Found ST "value" "[B" fV P.U := ⟨SBG.found_only al ⟨cfV, kV, iV, gV⟩, stV⟩
  have F2 : Found ST "coder" "B" fC P.U := ⟨SBG.found_only al ⟨cfC, kC, iC, gC⟩, stC⟩
  have hA : Ch b A P.U := ⟨⟨K.1, State.isArrayOf_alike al K.2.1, K.2.2, by omega⟩, hty⟩
  have hS : StaticIs P.U ST "COMPACT_STRINGS" "Z" (.int z) := by
    obtain ⟨cfS, iS, kS, fS, st, cS, t1, t2, t3, t4, t5, t6, t7⟩ := S
    exact StaticIs.there (s := { Z with heap := P.U.heap }) ⟨cfS, iS, kS, fS, st, cS, t1, t2, t3, t4, t5, (fun q => by rw [q] at t6; cases t6), t7⟩ al rfl
  obtain ⟨v, B, X', ⟨⟨hv, E', V', q1, q2, q3, q4, q5, q6, q7, q8, q9, q10, q11⟩, hl, hc, hs⟩, st⟩ := New1.pays x D fV fC b A z (tab_of (moved hZ hw)) hfr hlo m meth c P g ig mk _ X hg hsize hdg hW hn ⟨r1, r2, rfl, hB, F1, F2, hA, hS, hz, l0, l2, hp⟩
  have al' : Z.vm.Alike B.U.vm := hZ.alike.trans X'.warmed.alike
  have hsz : E'.slots.size = D.slots.size := by
    obtain ⟨-, -, -, kB, w1, w2, w3⟩ := q1
    obtain ⟨kB', y1, y2⟩ := al'.2.2 _ _ e3
    rw [q2.2.1] at w1
    cases w1.symm.trans y1
    rw [w3, e5 i3, y2]
  refine ⟨v, B, X', ⟨_, ⟨hv, ?_, ⟨by omega, fun y cy hy hn' => q10 y cy (by simpa using hn') hy, fun y cy hy => ?_⟩, q11, ⟨E', _, q1.1, by rw [q2.2.1]; exact e2, by rw [q2.2.1]; exact e3, by rw [q2.1]; exact obV, fun _ => by rw [hsz]; exact e5 i3⟩,
    ⟨E', cfV, kV, iV, fV, q1.1, gV, stV, by rw [q2.1]; exact knV, by rw [q2.1]; exact obV, by rw [q2.2.1]; exact asV, q3⟩, ⟨E', cfC, kC, iC, fC, q1.1, gC, stC, by rw [q2.1]; exact knV, by rw [q2.1]; exact obV, by rw [q2.2.1]; exact asC, q4⟩,
    ⟨V', ⟨q5.1, State.isArrayOf_alike al'.symm q5.2.1, q5.2.2.1⟩, q6, by rw [← al'.findClass]; exact q7, q8, fun j hj => by have := q9 j hj; rwa [Nat.zero_add] at this⟩, fun O n d w F n1 n2 => ?_⟩, hl, hc, hs⟩, st⟩
  · intro y hy
    simp only [List.mem_cons, List.not_mem_nil, or_false] at hy
    rcases hy with rfl | rfl <;> rfl
  · by_cases q : y = x
    · subst q
      cases hD.symm.trans hy
      exact ⟨E', q1.1, q2.2.1, q2.1, hsz⟩
    · exact ⟨cy, q10 y cy q hy, rfl, rfl, rfl⟩
  · obtain ⟨D3, cf, k, i, f, g1, g2, g3, g4, g5, g6, g7⟩ := F
    cases hD.symm.trans g1
    simp only [RoadKit.slotOf, g2, gV, gC, Option.map_some, Option.getD_some] at n1 n2
    exact ⟨E', cf, k, i, f, q1.1, g2, g3, by rw [q2.1]; exact g4, by rw [q2.1]; exact g5, by rw [q2.2.1]; exact g6, by rw [q2.2.2 f.slot (by simp [n1, n2])]; exact g7⟩
end StrChars.Road
namespace StrChars.Road
open Jvm Sem ClassFile Op Lib Jvm.Stand Jvm.Free Jvm.Free.XT
/-- WHAT COMES BACK, the byte[] as a list of values -/
def QA (Z : State) (x : Addr) (zn : Int32) (cs : List Int32) (h : Heap) (v : Option Value) (h' : Heap) (L : List Loc) : Prop := v = none ∧ (∀ y ∈ L, y.base = x) ∧ RoadKit.Keep h h' [x] ∧ h'.size = h.size + 1 ∧ RoadKit.Exa Z h' x ST ∧ RoadKit.Fld Z h' x ST "value" "[B" (.ref h.size) ∧ RoadKit.Fld Z h' x ST "coder" "B" (.int 0) ∧
  (∃ kb, Z.vm.findClass "[B" = some kb ∧ RoadKit.Arv Z h' h.size kb .byte zn (cs.map fun c => .int (lo8 c)) (.int 0)) ∧
  ∀ (O n d : String) (w : Value), RoadKit.Fld Z h x O n d w → RoadKit.slotOf Z O n d ≠ RoadKit.slotOf Z ST "value" "[B" → RoadKit.slotOf Z O n d ≠ RoadKit.slotOf Z ST "coder" "B" → RoadKit.Fld Z h' x O n d w
/-- **new String(chars) AT A CALL, THE ARRAYS AS LISTS**: the char[] at b holds cs, not empty, no char above 255 -/
theorem backArv {p : Program} {l : Launch} {e : Env} {R : Room} {s : State} {args : Array Value} {below : List Frame} {len W : Nat} {Z : State} {a0 : Array Value} {h : Heap} (hZ : Z.Warmed39 s.vm) (hw : ∀ d ∈ words, d.before a0 Z = true) {kI : Nat} (wi : (Jvm.Cond.instantiable ST kI).before a0 Z = true)
    {x b : Addr} {k : ClassId} {zn z : Int32} {cs : List Int32} {dv v0 c0 : Value} (E : RoadKit.Exa Z h x ST) (V : RoadKit.Fld Z h x ST "value" "[B" v0) (C : RoadKit.Fld Z h x ST "coder" "B" c0) (K : RoadKit.Arv Z h b k .char zn (cs.map Value.int) dv) (S : RoadKit.Sta Z h ST "COMPACT_STRINGS" "Z" (.int z)) (hz : ¬ z = 0)
    (hlen : zn.toNatClampNeg = cs.length) (h0 : 0 < cs.length) (hbig : cs.length ≤ 536870912) (hall : ∀ c ∈ cs, ¬ 255 < c) (hfr : 4 ≤ R.frames) (hlo : W + 65 ≤ R.locals) :
    Back l R p e below s args New1.yN len W (fun P a => a = #[.ref x, .ref b] ∧ P.U.heap = h ∧ P.cells + 1 ≤ R.cells ∧ P.slots + cs.length ≤ R.slots)
      (fun P _ v B => ∃ L, QA Z x zn cs h v B.U.heap L ∧ B.locs = P.locs ++ L ∧ B.cells = P.cells + 1 ∧ B.slots = P.slots + cs.length) := by
  obtain ⟨A, K1, K2, K3, K4, K5, K6⟩ := K
  have e : A.slots.size = cs.length := K3.trans hlen
  have hat : ∀ (i : Nat) (hi : i < cs.length), A.slots[i]? = some (.int cs[i]) := fun i hi => by rw [K5 i (by omega)]; simp [List.getD_eq_getElem?_getD, hi]
  have hcv : ∀ (i : Nat) (hi : i < cs.length), cv A i = cs[i] := fun i hi => by unfold cv; rw [hat i hi]
  have hty : Typed .char A := fun i v hv => by
    have hi : i < A.slots.size := (Array.getElem?_eq_some_iff.mp hv).1
    have q := K5 i hi
    rw [hv] at q
    rw [Option.some.inj q]
    exact K6 i hi
  refine Back.mono (back hZ hw wi E V C K1 hty S hz (by omega) (by omega) (fun i hi => by rw [hcv i (by omega)]; exact hall _ (List.getElem_mem _)) hfr hlo) (fun P a hp => ⟨hp.1, hp.2.1, hp.2.2.1, by rw [e]; exact hp.2.2.2⟩) (fun P a v B hp hq => ?_)
  obtain ⟨L, ⟨q1, q2, q3, q4, q5, q6, q7, ⟨V', v1, v2, v3, v4, v5⟩, q9⟩, hl, hc, hs⟩ := hq
  refine ⟨L, ⟨q1, q2, q3, q4, q5, q6, q7, ⟨V'.cls, v3, V', v1, rfl, by rw [v4, e, hlen], K4, fun i hi => ?_, fun i hi => ?_⟩, q9⟩, hl, hc, by rw [hs, e]⟩
  · have hi' : i < cs.length := by omega
    rw [v5 i (by omega), hcv i hi']; simp [List.getD_eq_getElem?_getD, hi']
  · have hi' : i < cs.length := by omega
    simp only [List.getD_eq_getElem?_getD, List.getElem?_map, List.getElem?_eq_getElem hi', Option.map_some, Option.getD_some]
    exact fits_lo8 _
end StrChars.Road
namespace StrChars.Road
open Jvm Sem ClassFile Op Lib Jvm.Stand Jvm.Free Jvm.Free.XT
/-- WHAT COMES BACK, in the writer's own shape -/
def QV (Z : State) (x : Addr) (N : Int32) (bs : List Int32) (h : Heap) (n0 : Nat) (v : Option Value) (h' : Heap) (L : List Loc) : Prop := v = none ∧ RoadKit.Fr n0 L ∧ RoadKit.Keep h h' [x] ∧ RoadKit.Exa Z h' x ST ∧ RoadKit.Fld Z h' x ST "coder" "B" (.int 0) ∧
  ∃ (t : Addr) (kb : ClassId), n0 ≤ t ∧ h.size ≤ t ∧ ¬ t = x ∧ RoadKit.Fld Z h' x ST "value" "[B" (.ref t) ∧ RoadKit.Arv Z h' t kb .byte N (bs.map Value.int) (.int 0)
/-- **new String(chars) AT A CALL, FOR THE WRITER**: a char[] of n known ints, each 0 to 255 -/
theorem backV {p : Program} {l : Launch} {e : Env} {R : Room} {s : State} {args : Array Value} {below : List Frame} {len W : Nat} {Z : State} {a0 : Array Value} {h : Heap} (hZ : Z.Warmed39 s.vm) (hw : ∀ d ∈ words, d.before a0 Z = true) {kI : Nat} (wi : (Jvm.Cond.instantiable ST kI).before a0 Z = true)
    {x b : Addr} {kC : ClassId} {cs bs : List Int32} {d v0 c0 : Value} {z N : Int32} {n n0 : Nat} (hx0 : n0 ≤ x) (hh0 : n0 ≤ h.size) (E : RoadKit.Exa Z h x ST) (V : RoadKit.Fld Z h x ST "value" "[B" v0) (C : RoadKit.Fld Z h x ST "coder" "B" c0) (K : RoadKit.Arv Z h b kC .char N (cs.map Value.int) d) (S : RoadKit.Sta Z h ST "COMPACT_STRINGS" "Z" (.int z)) (hz : ¬ z = 0)
    (hn : cs.length = n) (hN : N = Int32.ofNat n) (l0 : 0 < n) (l2 : n ≤ 4000) (hp : ∀ c ∈ cs, ¬ c < 0 ∧ ¬ (255 : Int32) < c) (hb : bs = cs.map (fun c => c.toInt8.toInt32)) (hfr : 4 ≤ R.frames) (hlo : W + 65 ≤ R.locals) :
    Back l R p e below s args (⟨"java/lang/String", "<init>", "([C)V"⟩ : MethodName) len W (fun P a => a = #[.ref x, .ref b] ∧ P.U.heap = h ∧ P.cells + 1 ≤ R.cells ∧ P.slots + n ≤ R.slots)
      (fun P _ v B => ∃ L, QV Z x N bs h n0 v B.U.heap L ∧ B.locs = P.locs ++ L ∧ B.cells = P.cells + 1 ∧ B.slots = P.slots + n) := by
  subst hn hN hb
  refine Back.mono (backArv hZ hw wi E V C K S hz (n32 (by omega)) l0 (by omega) (fun c hc => (hp c hc).2) hfr hlo) (fun P a hp => hp) (fun P a v B hp hq => ?_)
  obtain ⟨L, ⟨q1, q2, q3, q4, q5, q6, q7, ⟨kb, v1, v2⟩, q9⟩, hl, hc, hs⟩ := hq
  exact ⟨L, ⟨q1, fun y hy => by rw [q2 y hy]; exact hx0, q3, q5, q7, h.size, kb, hh0, Nat.le_refl _, Nat.ne_of_gt E.lt, q6, by rw [List.map_map]; exact v2⟩, hl, hc, hs⟩
end StrChars.Road
namespace StrChars
open Jvm Sem ClassFile Op Lib Jvm.Stand Jvm.Free.XT Jvm.Free.ALB Jvm.Free.JM Jvm.Free
open Jvm.Lib.Cold (StaticIs)
def hi8 (x : Int32) : Int32 := lo8 (x >>> ((8 : Int32) &&& 31))
/-- what StringUTF16.getChar makes of two bytes -/
def pairCh (u v : Int32) : Int32 := (((u &&& 255) <<< ((0 : Int32) &&& 31)) ||| ((v &&& 255) <<< ((8 : Int32) &&& 31))).toUInt32.toUInt16.toUInt32.toInt32
theorem lo8_and (x : Int32) : (lo8 x &&& 255).toBitVec.toNat = x.toBitVec.toNat % 256 := by
  have h : (lo8 x).toBitVec = (x.toBitVec.signExtend 8).signExtend 32 := by rw [lo8, Int8.toBitVec_toInt32, Int32.toBitVec_toInt8]
  rw [Int32.toBitVec_and, BitVec.toNat_and, h]
  have e : ((x.toBitVec.signExtend 8).signExtend 32).toNat % 256 = x.toBitVec.toNat % 256 := by
    rw [BitVec.toNat_signExtend]
    have hlt := x.toBitVec.isLt
    simp only [BitVec.toNat_setWidth, BitVec.toNat_signExtend]
    split <;> split <;> omega
  rw [← e]
  exact Nat.and_two_pow_sub_one_eq_mod _ 8
theorem pair_says {c : Int32} (h0 : ¬ c < 0) (h1 : ¬ 65535 < c) : pairCh (lo8 c) (hi8 c) = c := by
  rw [Int32.lt_iff_toInt_lt] at h0 h1
  have e0 : (0 : Int32).toInt = 0 := rfl
  have e1 : (65535 : Int32).toInt = 65535 := rfl
  have hc : c.toInt = c.toBitVec.toNat := by
    have := c.toBitVec.isLt
    have e : c.toInt = c.toBitVec.toInt := rfl
    rw [e] at h0 h1
    rw [e]
    rw [BitVec.toInt_eq_toNat_cond] at h0 h1 ⊢
    split at h0 <;> split <;> omega
  have hn : c.toBitVec.toNat < 65536 := by omega
  have a1 := lo8_and c
  have a2 : (hi8 c &&& 255).toBitVec.toNat = c.toBitVec.toNat / 256 := by
    rw [hi8, lo8_and]
    have e : ((8 : Int32) &&& 31) = 8 := by decide
    rw [e, Int32.toBitVec_shiftRight]
    have e2 : ((8 : Int32).toBitVec.smod 32) = 8#32 := by decide
    rw [e2, BitVec.sshiftRight_eq', BitVec.toNat_sshiftRight_of_msb_false (by rw [BitVec.msb_eq_false_iff_two_mul_lt]; omega)]
    show c.toBitVec.toNat >>> 8 % 256 = _
    rw [Nat.shiftRight_eq_div_pow]
    omega
  unfold pairCh
  apply Int32.toBitVec_inj.mp
  apply BitVec.eq_of_toNat_eq
  have f0 : ((0 : Int32) &&& 31) = 0 := by decide
  have f8 : ((8 : Int32) &&& 31) = 8 := by decide
  rw [f0, f8]
  have g : (((lo8 c &&& 255) <<< (0 : Int32)) ||| ((hi8 c &&& 255) <<< (8 : Int32))).toBitVec.toNat = c.toBitVec.toNat := by
    rw [Int32.toBitVec_or, Int32.toBitVec_shiftLeft, Int32.toBitVec_shiftLeft]
    have s0 : ((0 : Int32).toBitVec.smod 32) = 0#32 := by decide
    have s8 : ((8 : Int32).toBitVec.smod 32) = 8#32 := by decide
    rw [s0, s8, BitVec.toNat_or]
    simp only [BitVec.shiftLeft_eq', BitVec.toNat_shiftLeft, a1, a2]
    show (c.toBitVec.toNat % 256) <<< 0 % 2 ^ 32 ||| (c.toBitVec.toNat / 256) <<< 8 % 2 ^ 32 = _
    rw [Nat.shiftLeft_zero, Nat.mod_eq_of_lt (show c.toBitVec.toNat % 256 < 2 ^ 32 by omega), Nat.mod_eq_of_lt (show (c.toBitVec.toNat / 256) <<< 8 < 2 ^ 32 by rw [Nat.shiftLeft_eq]; omega), Nat.or_comm, ← Nat.shiftLeft_add_eq_or_of_lt (by omega), Nat.shiftLeft_eq]
    omega
  show BitVec.toNat (((((lo8 c &&& 255) <<< (0 : Int32)) ||| ((hi8 c &&& 255) <<< (8 : Int32))).toBitVec.setWidth 16).setWidth 32) = _
  rw [BitVec.toNat_setWidth, BitVec.toNat_setWidth, g]
  omega
end StrChars
namespace StrChars
open Jvm Sem ClassFile Op Lib Jvm.Stand Jvm.Free.XT Jvm.Free.ALB Jvm.Free.JM Jvm.Free
open Jvm.Lib.Cold (StaticIs)
/-- the array's cell V codes the n chars f 0 .. f (n - 1) by the coder cd, as the JDK does: coder 1 just where some char is above 255 -/
def Cod (cd : Int32) (n : Nat) (f : Nat → Int32) (V : Cell) : Prop := (cd = 0 ∧ V.slots.size = n ∧ ∀ j, j < n → V.slots[j]? = some (.int (lo8 (f j))) ∧ ¬ 255 < f j) ∨ (cd = 1 ∧ V.slots.size = 2 * n ∧ (∀ j, j < n → V.slots[2 * j]? = some (.int (lo8 (f j))) ∧ V.slots[2 * j + 1]? = some (.int (hi8 (f j)))) ∧ ∃ j, j < n ∧ 255 < f j)
/-- **x is a String of the n chars f 0 .. f (n - 1)**, Latin-1 or UTF-16; its array at t has the cell V -/
def Txt (x t : Addr) (V : Cell) (cd : Int32) (n : Nat) (f : Nat → Int32) (U : State) : Prop := Exact "java/lang/String" x U ∧ Has x "java/lang/String" "value" "[B" (.ref t) U ∧ Has x "java/lang/String" "coder" "B" (.int cd) U ∧ XT.Arr .byte t V U ∧ Cod cd n f V ∧ ∀ j, j < n → ¬ f j < 0 ∧ ¬ 65535 < f j
theorem Txt.mv {x t : Addr} {V : Cell} {cd : Int32} {n : Nat} {f : Nat → Int32} {U U' : State} (h : Txt x t V cd n f U) (hal : U.vm.Alike U'.vm) (hh : U'.heap = U.heap) : Txt x t V cd n f U' := ⟨h.1.mv hal hh, h.2.1.mv hal hh, h.2.2.1.mv hal hh, h.2.2.2.1.mv hal hh, h.2.2.2.2⟩
end StrChars
namespace StrChars.Road
open Jvm Sem ClassFile Op Lib Jvm.Stand Jvm.Free Jvm.Free.XT
open Jvm.Lib.Cold (StaticIs)
theorem consq {a : Array Value} {s : State} {c : Jvm.Cond} {L : List Jvm.Cond} (h0 : c.before a s = true) (h : ∀ w ∈ L, w.before a s = true) : ∀ w ∈ c :: L, w.before a s = true := fun w hw => (List.mem_cons.mp hw).elim (fun e => e ▸ h0) (h w)
/-- the bytes of the chars cs, low before high -/
def wideBytes : List Int32 → List Value
  | [] => []
  | c :: cs => .int (lo8 c) :: .int (hi8 c) :: wideBytes cs
theorem wide_lo (d : Value) : ∀ (cs : List Int32) (j : Nat), j < cs.length → (wideBytes cs).getD (2 * j) d = .int (lo8 (cs.getD j 0))
  | [], j, h => absurd h (Nat.not_lt_zero j)
  | c :: cs, 0, _ => rfl
  | c :: cs, j + 1, h => by
    have q := wide_lo d cs j (by simpa using h)
    rw [show 2 * (j + 1) = 2 * j + 1 + 1 from by omega]
    simpa [wideBytes] using q
theorem wide_hi (d : Value) : ∀ (cs : List Int32) (j : Nat), j < cs.length → (wideBytes cs).getD (2 * j + 1) d = .int (hi8 (cs.getD j 0))
  | [], j, h => absurd h (Nat.not_lt_zero j)
  | c :: cs, 0, _ => rfl
  | c :: cs, j + 1, h => by
    have q := wide_hi d cs j (by simpa using h)
    rw [show 2 * (j + 1) + 1 = 2 * j + 1 + 1 + 1 from by omega]
    simpa [wideBytes] using q
theorem low_at (d : Value) (cs : List Int32) (j : Nat) (h : j < cs.length) : (cs.map fun c => Value.int (lo8 c)).getD j d = .int (lo8 (cs.getD j 0)) := by
  simp [List.getD_eq_getElem?_getD, h]
/-- an array of N2 bytes vs codes the chars cs by the coder cd -/
def CodA (cs : List Int32) (cd N2 : Int32) (vs : List Value) : Prop := (cd = 0 ∧ N2 = Int32.ofNat cs.length ∧ vs = (cs.map fun c => Value.int (lo8 c)) ∧ ∀ c ∈ cs, ¬ 255 < c) ∨ (cd = 1 ∧ N2 = Int32.ofNat (2 * cs.length) ∧ vs = wideBytes cs ∧ ∃ c ∈ cs, 255 < c)
theorem CodA.cod {cs : List Int32} {cd N2 : Int32} {vs : List Value} {V : Cell} (h : CodA cs cd N2 vs) (hn : 2 * cs.length < 2 ^ 31) (hs : V.slots.size = N2.toNatClampNeg) (hv : RoadKit.Has V vs (.int 0)) : Cod cd cs.length (fun j => cs.getD j 0) V := by
  rcases h with ⟨rfl, rfl, rfl, h⟩ | ⟨rfl, rfl, rfl, c, hc, hw⟩
  · rw [n32 (by omega)] at hs
    exact Or.inl ⟨rfl, hs, fun j hj => ⟨by rw [hv j (by omega), low_at _ _ _ hj], by
      have e : cs.getD j 0 = cs[j] := by simp [List.getD_eq_getElem?_getD, hj]
      show ¬ 255 < cs.getD j 0
      rw [e]; exact h _ (List.getElem_mem _)⟩⟩
  · rw [n32 (by omega)] at hs
    obtain ⟨j, hj, rfl⟩ := List.getElem_of_mem hc
    exact Or.inr ⟨rfl, hs, fun j hj => ⟨by rw [hv _ (by omega), wide_lo _ _ _ hj], by rw [hv _ (by omega), wide_hi _ _ _ hj]⟩, j, hj, by
      have e : cs.getD j 0 = cs[j] := by simp [List.getD_eq_getElem?_getD, hj]
      show 255 < cs.getD j 0
      rw [e]; exact hw⟩
/-- an object of exactly java/lang/String, its two fields found: as the laws ask it -/
theorem strObj {Z U : State} {a0 : Array Value} {kI : Nat} (wi : (Jvm.Cond.instantiable ST kI).before a0 Z = true) (al : Z.vm.Alike U.vm) {x : Addr} {v0 c0 : Value} (E : RoadKit.Exa Z U.heap x ST) (V : RoadKit.Fld Z U.heap x ST "value" "[B" v0) (C : RoadKit.Fld Z U.heap x ST "coder" "B" c0) :
    ∃ (D : Cell) (fV fC : Field), Blank ST x D U ∧ Found ST "value" "[B" fV U ∧ Found ST "coder" "B" fC U ∧ D.slots[fV.slot]? = some v0 ∧ D.slots[fC.slot]? = some c0 ∧ RoadKit.slotOf Z ST "value" "[B" = fV.slot ∧ RoadKit.slotOf Z ST "coder" "B" = fC.slot := by
  obtain ⟨D, cfV, kV, iV, fV, hD, gV, stV, knV, obV, asV, slV⟩ := V
  obtain ⟨D', cfC, kC, iC, fC, hD', gC, stC, -, -, asC, slC⟩ := C
  cases hD.symm.trans hD'
  obtain ⟨D2, kD, e1, e2, e3, e4, e5⟩ := E
  cases hD.symm.trans e1
  obtain ⟨c2, k2, i1, i2, i3, -⟩ := Cond.instantiable_spec wi
  cases e2.symm.trans i1
  cases e3.symm.trans i2
  obtain ⟨kU, u1, u2⟩ := al.2.2 _ _ e3
  exact ⟨D, fV, fC, ⟨hD, ⟨knV, fun q hq => by rw [hq] at obV; cases obV⟩, by rw [al.findClass]; exact e2, kU, u1, by rw [u2]; exact i3, by rw [u2]; exact e5 i3⟩, ⟨SBG.found_only al ⟨cfV, kV, iV, gV⟩, stV⟩, ⟨SBG.found_only al ⟨cfC, kC, iC, gC⟩, stC⟩, slV, slC, by simp [RoadKit.slotOf, gV], by simp [RoadKit.slotOf, gC]⟩
theorem sta_is {Z U : State} (al : Z.vm.Alike U.vm) {C n d : String} {v : Value} (S : RoadKit.Sta Z U.heap C n d v) : StaticIs U C n d v := by
  obtain ⟨cfS, iS, kS, fS, st, cS, t1, t2, t3, t4, t5, t6, t7⟩ := S
  exact StaticIs.there (s := { Z with heap := U.heap }) ⟨cfS, iS, kS, fS, st, cS, t1, t2, t3, t4, t5, (fun q => by rw [q] at t6; cases t6), t7⟩ al rfl
end StrChars.Road
namespace StrChars
open Jvm Sem ClassFile Op Lib Jvm.Stand Jvm.Free.XT Jvm.Free.ALB Jvm.Free.JM Jvm.Free
open Jvm.Lib.Cold (StaticIs)
/-- what place i of a byte[]'s cell holds -/
def yv (A : Cell) (i : Nat) : Int32 := match A.slots[i]? with | some (.int x) => x | _ => 0
theorem yv_get {a : Addr} {A : Cell} {U : State} (h : XT.Arr .byte a A U) (ht : Typed .byte A) {i : Nat} (hi : i < A.slots.size) : A.slots[i]? = some (.int (yv A i)) := by
  have e := Array.getElem?_eq_getElem hi
  have f := ht i _ e
  unfold yv; rw [e]
  generalize A.slots[i] = v at f
  cases v <;> simp [fits] at f ⊢
/-- the two arrays are equal, place for place -/
def EqC (A B : Cell) : Prop := A.slots.size = B.slots.size ∧ ∀ i, i < A.slots.size → yv A i = yv B i
/-- a boolean that says whether p -/
def Says01 (q : Prop) (r : Option Value) (s u : State) : Prop := ∃ v : Int32, r = some (.int v) ∧ u.heap = s.heap ∧ ((v = 1 ∧ q) ∨ (v = 0 ∧ ¬ q))
theorem Says01.mv {q : Prop} : ∀ r (U U' V V' : State), U'.heap = U.heap → V.vm.Alike V'.vm → V'.heap = V.heap → Says01 q r U V → Says01 q r U' V' :=
  fun r U U' V V' h1 _ h2 ⟨v, a, b, c⟩ => ⟨v, a, by rw [h1, h2]; exact b, c⟩
namespace LEq
def yN : MethodName := ⟨"java/lang/StringLatin1", "equals", "([B[B)Z"⟩
abbrev yB : ByteArray := jdk_43_method_13_code
theorem d0 : decode yB 0 = .ok (.aload_n 0, 1) := by decide +kernel
theorem d1 : decode yB 1 = .ok (.arraylength, 1) := by decide +kernel
theorem d2 : decode yB 2 = .ok (.aload_n 1, 1) := by decide +kernel
theorem d3 : decode yB 3 = .ok (.arraylength, 1) := by decide +kernel
theorem d4 : decode yB 4 = .ok (.if_icmp (.ne) 30, 3) := by decide +kernel
theorem d7 : decode yB 7 = .ok (.iconst 0, 1) := by decide +kernel
theorem d8 : decode yB 8 = .ok (.istore_n 2, 1) := by decide +kernel
theorem d9 : decode yB 9 = .ok (.iload_n 2, 1) := by decide +kernel
theorem d10 : decode yB 10 = .ok (.aload_n 0, 1) := by decide +kernel
theorem d11 : decode yB 11 = .ok (.arraylength, 1) := by decide +kernel
theorem d12 : decode yB 12 = .ok (.if_icmp (.ge) 20, 3) := by decide +kernel
theorem d15 : decode yB 15 = .ok (.aload_n 0, 1) := by decide +kernel
theorem d16 : decode yB 16 = .ok (.iload_n 2, 1) := by decide +kernel
theorem d17 : decode yB 17 = .ok (.baload, 1) := by decide +kernel
theorem d18 : decode yB 18 = .ok (.aload_n 1, 1) := by decide +kernel
theorem d19 : decode yB 19 = .ok (.iload_n 2, 1) := by decide +kernel
theorem d20 : decode yB 20 = .ok (.baload, 1) := by decide +kernel
theorem d21 : decode yB 21 = .ok (.if_icmp (.eq) 5, 3) := by decide +kernel
theorem d24 : decode yB 24 = .ok (.iconst 0, 1) := by decide +kernel
theorem d25 : decode yB 25 = .ok (.ireturn, 1) := by decide +kernel
theorem d26 : decode yB 26 = .ok (.iinc 2 1, 3) := by decide +kernel
theorem d29 : decode yB 29 = .ok (.goto (-20), 3) := by decide +kernel
theorem d32 : decode yB 32 = .ok (.iconst 1, 1) := by decide +kernel
theorem d33 : decode yB 33 = .ok (.ireturn, 1) := by decide +kernel
theorem d34 : decode yB 34 = .ok (.iconst 0, 1) := by decide +kernel
theorem d35 : decode yB 35 = .ok (.ireturn, 1) := by decide +kernel
def site : List Cond := []
def tab : Cond := tabOf yN yB 3 (some .boolean) site
def P (a : Addr) (A : Cell) (b : Addr) (B : Cell) (args : Array Value) (s : State) : Prop := args = #[.ref a, .ref b] ∧ XT.Arr .byte a A s ∧ Typed .byte A ∧ XT.Arr .byte b B s ∧ Typed .byte B
/-- whether two byte[] are equal, place for place -/
theorem law (l : Launch) (a : Addr) (A : Cell) (b : Addr) (B : Cell) : Law l yN 2 2 0 0 yB 3 (some .boolean) site (P a A b B) (Says01 (EqC A B)) [] 0 0 := by
  refine Law.of_walk (plainFor_of_name (by decide +kernel)) (by decide +kernel) (by decide +kernel) (by decide) (fun _ _ h => by rw [h.1]; rfl) (fun _ U U' hal hh h => ⟨h.1, h.2.1.mv hal hh, h.2.2.1, h.2.2.2.1.mv hal hh, h.2.2.2.2⟩) (fun r U U' V V' h1 hal h2 h => Says01.mv r U U' V V' h1 hal h2 h) ?_
  intro p e s m args below meth c s₁ X0 hexec hbytes hml hret hlk hnm hown hh0 W hP
  obtain ⟨rfl, hA, tA, hB, tB⟩ := hP
  have a31 := hA.2.2.2
  have b31 := hB.2.2.2
  have hA0 := hA.mv X0.warmed.alike hh0
  have hB0 := hB.mv X0.warmed.alike hh0
  have c1 : Steps p.tables e below (s₁.setTop (entryFrame m #[.ref a, .ref b] 3)) (s₁.setTop (mkF m 0 #[.val (.ref a), .val (.ref b), .unset] [])) := entry rfl
  have c2 : Steps p.tables e below (s₁.setTop (entryFrame m #[.ref a, .ref b] 3)) (s₁.setTop (mkF m 4 #[.val (.ref a), .val (.ref b), .unset] [.int (Int32.ofNat B.slots.size), .int (Int32.ofNat A.slots.size)])) := c1.trans (by
    refine XS.aloadN X0.here hexec rfl (hb hbytes d0) rfl rfl ?_
    refine X0.alen hexec hA0 rfl rfl (hb hbytes d1) ?_
    refine XS.aloadN X0.here hexec rfl (hb hbytes d2) rfl rfl ?_
    refine X0.alen hexec hB0 rfl rfl (hb hbytes d3) ?_
    exact Steps.refl _)
  by_cases hs : A.slots.size = B.slots.size
  · have c3 : Steps p.tables e below (s₁.setTop (entryFrame m #[.ref a, .ref b] 3)) (s₁.setTop (mkF m 9 #[.val (.ref a), .val (.ref b), .val (.int 0)] [])) := c2.trans (by
      refine XS.icmpNo X0.here hexec rfl (hb hbytes d4) rfl (ii_ne_f (by rw [hs])) ?_
      refine iconstV X0.here hexec rfl 0 (hb hbytes d7) (by decide) ?_
      refine XS.istoreN X0.here hexec rfl (hb hbytes d8) rfl rfl ?_
      exact Steps.refl _)
    have loop : ∀ (r i : Nat), i + r = A.slots.size → (∀ j, j < i → yv A j = yv B j) → Steps p.tables e below (s₁.setTop (entryFrame m #[.ref a, .ref b] 3)) (s₁.setTop (mkF m 9 #[.val (.ref a), .val (.ref b), .val (.int (Int32.ofNat i))] [])) → ∃ (pc : Nat) (Ls : Array Slot) (v : Int32), (pc = 25 ∨ pc = 33) ∧ ((v = 1 ∧ EqC A B) ∨ (v = 0 ∧ ¬ EqC A B)) ∧ Steps p.tables e below (s₁.setTop (entryFrame m #[.ref a, .ref b] 3)) (s₁.setTop (mkF m pc Ls [.int v])) := by
      intro r
      induction r with
      | zero =>
        intro i hi he cl
        exact ⟨33, _, 1, Or.inr rfl, Or.inl ⟨rfl, hs, fun j hj => he j (by omega)⟩, cl.trans (by
          refine XS.iloadN X0.here hexec rfl (hb hbytes d9) rfl ?_
          refine XS.aloadN X0.here hexec rfl (hb hbytes d10) rfl rfl ?_
          refine X0.alen hexec hA0 rfl rfl (hb hbytes d11) ?_
          refine XS.icmpYes X0.here hexec rfl (pc0 := 12) rfl (hb hbytes d12) rfl (ii_ge_t (nlt32 (by omega) (by omega))) (by decide) rfl ?_
          refine iconstV X0.here hexec rfl 1 (hb hbytes d32) (by decide) ?_
          exact Steps.refl _)⟩
      | succ r ih =>
        intro i hi he cl
        have c4 : Steps p.tables e below (s₁.setTop (entryFrame m #[.ref a, .ref b] 3)) (s₁.setTop (mkF m 21 #[.val (.ref a), .val (.ref b), .val (.int (Int32.ofNat i))] [.int (yv B i), .int (yv A i)])) := cl.trans (by
          refine XS.iloadN X0.here hexec rfl (hb hbytes d9) rfl ?_
          refine XS.aloadN X0.here hexec rfl (hb hbytes d10) rfl rfl ?_
          refine X0.alen hexec hA0 rfl rfl (hb hbytes d11) ?_
          refine XS.icmpNo X0.here hexec rfl (hb hbytes d12) rfl (ii_ge_f (lt32 (by omega) (by omega))) ?_
          refine XS.aloadN X0.here hexec rfl (hb hbytes d15) rfl rfl ?_
          refine XS.iloadN X0.here hexec rfl (hb hbytes d16) rfl ?_
          refine X0.aget hexec hA0 rfl (yv_get hA tA (i := i) (by omega)) rfl rfl (hb hbytes d17) ?_
          refine XS.aloadN X0.here hexec rfl (hb hbytes d18) rfl rfl ?_
          refine XS.iloadN X0.here hexec rfl (hb hbytes d19) rfl ?_
          refine X0.aget hexec hB0 rfl (yv_get hB tB (i := i) (by omega)) rfl rfl (hb hbytes d20) ?_
          exact Steps.refl _)
        by_cases hv : yv A i = yv B i
        · have c5 : Steps p.tables e below (s₁.setTop (entryFrame m #[.ref a, .ref b] 3)) (s₁.setTop (mkF m 9 #[.val (.ref a), .val (.ref b), .val (.int (Int32.ofNat i + 1))] [])) := c4.trans (by
            refine XS.icmpYes X0.here hexec rfl (pc0 := 21) rfl (hb hbytes d21) rfl (ii_eq_t hv) (by decide) rfl ?_
            refine iincV X0.here hexec rfl 1 (hb hbytes d26) (by decide) rfl rfl ?_
            refine XS.goto X0.here hexec rfl (pc0 := 29) rfl (hb hbytes d29) (by decide) rfl ?_
            exact Steps.refl _)
          rw [succ32] at c5
          exact ih (i + 1) (by omega) (fun j hj => by
            by_cases e : j = i
            · rw [e]; exact hv
            · exact he j (by omega)) c5
        · exact ⟨25, _, 0, Or.inl rfl, Or.inr ⟨rfl, fun q => hv (q.2 i (by omega))⟩, c4.trans (by
            refine XS.icmpNo X0.here hexec rfl (hb hbytes d21) rfl (ii_eq_f hv) ?_
            refine iconstV X0.here hexec rfl 0 (hb hbytes d24) (by decide) ?_
            exact Steps.refl _)⟩
    obtain ⟨pc, Ls, v, hpc, hv, cz⟩ := loop A.slots.size 0 (by omega) (fun j hj => absurd hj (Nat.not_lt_zero j)) c3
    have nv : narrow .boolean (.int v) = .int v := by rcases hv with ⟨rfl, -⟩ | ⟨rfl, -⟩ <;> rfl
    rcases hpc with rfl | rfl
    · exact ⟨s₁, some (.int v), _, _, _, X0, rfl, rfl, rfl, (fun h => by cases h), ⟨v, rfl, hh0, hv⟩, fun fs hl => cz.trans (X0.ireturnOut hexec hret nv (Or.inr (Or.inl rfl)) (hb hbytes d25) hl)⟩
    · exact ⟨s₁, some (.int v), _, _, _, X0, rfl, rfl, rfl, (fun h => by cases h), ⟨v, rfl, hh0, hv⟩, fun fs hl => cz.trans (X0.ireturnOut hexec hret nv (Or.inr (Or.inl rfl)) (hb hbytes d33) hl)⟩
  · have c3 : Steps p.tables e below (s₁.setTop (entryFrame m #[.ref a, .ref b] 3)) (s₁.setTop (mkF m 35 #[.val (.ref a), .val (.ref b), .unset] [.int 0])) := c2.trans (by
      refine XS.icmpYes X0.here hexec rfl (pc0 := 4) rfl (hb hbytes d4) rfl (ii_ne_t (ne32 a31 b31 hs)) (by decide) rfl ?_
      refine iconstV X0.here hexec rfl 0 (hb hbytes d34) (by decide) ?_
      exact Steps.refl _)
    exact ⟨s₁, some (.int 0), _, _, _, X0, rfl, rfl, rfl, (fun h => by cases h), ⟨0, rfl, hh0, Or.inr ⟨rfl, fun q => hs q.1⟩⟩, fun fs hl => c3.trans (X0.ireturnOut hexec hret rfl (Or.inr (Or.inl rfl)) (hb hbytes d35) hl)⟩
end LEq
theorem Cod.ty {cd : Int32} {n : Nat} {f : Nat → Int32} {V : Cell} (h : Cod cd n f V) : Typed .byte V := fun i v hv => by
  have hi : i < V.slots.size := (Array.getElem?_eq_some_iff.mp hv).1
  rcases h with ⟨-, k1, k2⟩ | ⟨-, k1, k2, -⟩
  · rw [(k2 i (by omega)).1] at hv; cases hv; exact fits_lo8 _
  · rcases Nat.mod_two_eq_zero_or_one i with e | e
    · obtain ⟨j, rfl⟩ : ∃ j, i = 2 * j := ⟨i / 2, by omega⟩
      rw [(k2 j (by omega)).1] at hv; cases hv; exact fits_lo8 _
    · obtain ⟨j, rfl⟩ : ∃ j, i = 2 * j + 1 := ⟨i / 2, by omega⟩
      rw [(k2 j (by omega)).2] at hv; cases hv; exact fits_lo8 _
/-- the same text -/
def SameT (n : Nat) (f : Nat → Int32) (k : Nat) (g : Nat → Int32) : Prop := n = k ∧ ∀ j, j < n → f j = g j
theorem lo8_inj {x y : Int32} (h0 : ¬ x < 0) (h1 : ¬ 255 < x) (k0 : ¬ y < 0) (k1 : ¬ 255 < y) (h : lo8 x = lo8 y) : x = y := by
  rw [← lo8_mask h0 h1, ← lo8_mask k0 k1, h]
/-- arrays coded by one coder are equal just where the texts are -/
theorem Cod.eqv {cd : Int32} {n k : Nat} {f g : Nat → Int32} {V V' : Cell} (h : Cod cd n f V) (h' : Cod cd k g V') (hf : ∀ j, j < n → ¬ f j < 0 ∧ ¬ 65535 < f j) (hg : ∀ j, j < k → ¬ g j < 0 ∧ ¬ 65535 < g j) : EqC V V' ↔ SameT n f k g := by
  have yvv : ∀ {W : Cell} {i : Nat} {x : Int32}, W.slots[i]? = some (.int x) → yv W i = x := fun q => by unfold yv; rw [q]
  rcases h with ⟨rfl, k1, k2⟩ | ⟨rfl, k1, k2, -⟩
  · rcases h' with ⟨-, m1, m2⟩ | ⟨e, -⟩
    · constructor
      · rintro ⟨e1, e2⟩
        refine ⟨by omega, fun j hj => ?_⟩
        have q := e2 j (by omega)
        rw [yvv (k2 j hj).1, yvv (m2 j (by omega)).1] at q
        exact lo8_inj (hf j hj).1 (k2 j hj).2 (hg j (by omega)).1 (m2 j (by omega)).2 q
      · rintro ⟨rfl, e2⟩
        refine ⟨by omega, fun j hj => ?_⟩
        rw [yvv (k2 j (by omega)).1, yvv (m2 j (by omega)).1, e2 j (by omega)]
    · exact absurd e (by decide)
  · rcases h' with ⟨e, -⟩ | ⟨-, m1, m2, -⟩
    · exact absurd e (by decide)
    · constructor
      · rintro ⟨e1, e2⟩
        refine ⟨by omega, fun j hj => ?_⟩
        have q1 := e2 (2 * j) (by omega)
        have q2 := e2 (2 * j + 1) (by omega)
        rw [yvv (k2 j hj).1, yvv (m2 j (by omega)).1] at q1
        rw [yvv (k2 j hj).2, yvv (m2 j (by omega)).2] at q2
        rw [← pair_says (hf j hj).1 (hf j hj).2, ← pair_says (hg j (by omega)).1 (hg j (by omega)).2, q1, q2]
      · rintro ⟨rfl, e2⟩
        refine ⟨by omega, fun i hi => ?_⟩
        rcases Nat.mod_two_eq_zero_or_one i with e | e
        · obtain ⟨j, rfl⟩ : ∃ j, i = 2 * j := ⟨i / 2, by omega⟩
          rw [yvv (k2 j (by omega)).1, yvv (m2 j (by omega)).1, e2 j (by omega)]
        · obtain ⟨j, rfl⟩ : ∃ j, i = 2 * j + 1 := ⟨i / 2, by omega⟩
          rw [yvv (k2 j (by omega)).2, yvv (m2 j (by omega)).2, e2 j (by omega)]
/-- two codings differ: so do the texts -/
theorem Cod.dif {cd cd' : Int32} {n k : Nat} {f g : Nat → Int32} {V V' : Cell} (h : Cod cd n f V) (h' : Cod cd' k g V') (hne : ¬ cd = cd') : ¬ SameT n f k g := by
  rintro ⟨rfl, e⟩
  rcases h with ⟨rfl, -, k2⟩ | ⟨rfl, -, -, j, hj, hw⟩
  · rcases h' with ⟨rfl, -⟩ | ⟨-, -, -, j, hj, hw⟩
    · exact hne rfl
    · exact (k2 j hj).2 (by rw [e j hj]; exact hw)
  · rcases h' with ⟨-, -, m2⟩ | ⟨rfl, -⟩
    · exact (m2 j hj).2 (by rw [← e j hj]; exact hw)
    · exact hne rfl
/-- an object of exactly C is an instance of C -/
theorem cinst {p : Program} {l : Launch} {e : Env} {R : Room} {s : State} {m : MethodId} {args : Array Value} {below : List Frame} {meth : Method} {c : Code} {T : State} {locs : List Loc} {cells slots : Nat} (X : Stand p l e R s m args below meth c T locs cells slots) (hexec : p.tables.exec = Jvm.exec) {own C : String} {index : Nat} (hown : s.vm.findClass own = some m.cls) (hlink : (Cond.classLink own index C).before args s = true) {a : Addr} (hE : Exact C a T)
    {g : JFrame} (hg : g.method = m) {rest : List Value} (hstack : g.stack = .ref a :: rest) (hdg : decode c.code g.pc = .ok (.instanceof index, 3)) :
    ∃ T', Stand p l e R s m args below meth c T' locs cells slots ∧ T'.heap = T.heap ∧ ∀ target, Steps p.tables e below (T'.setTop { g with pc := g.pc + 3, stack := .int 1 :: rest }) target → Steps p.tables e below (T.setTop g) target := by
  obtain ⟨cB, h1, D, h2, h3, h4⟩ := hE
  have h1' : s.vm.findClass C = some cB := by rw [← X.warmed.alike.findClass]; exact h1
  obtain ⟨vm', X', st⟩ := X.instanceofYes hexec hown hlink h2 h4 h1' (by rw [h3]; exact Jvm.Free.SB.assignable_self _ _) hg hstack hdg
  exact ⟨_, X', rfl, st⟩
theorem cself {p : Program} {l : Launch} {e : Env} {R : Room} {s : State} {m : MethodId} {args : Array Value} {below : List Frame} {meth : Method} {c : Code} {T : State} {locs : List Loc} {cells slots : Nat} (X : Stand p l e R s m args below meth c T locs cells slots) (hexec : p.tables.exec = Jvm.exec) {own C : String} {index : Nat} (hown : s.vm.findClass own = some m.cls) (hlink : (Cond.classLink own index C).before args s = true) {a : Addr} (hE : Exact C a T)
    {g : JFrame} (hg : g.method = m) {rest : List Value} (hstack : g.stack = .ref a :: rest) (hdg : decode c.code g.pc = .ok (.checkcast index, 3)) :
    ∃ T', Stand p l e R s m args below meth c T' locs cells slots ∧ T'.heap = T.heap ∧ ∀ target, Steps p.tables e below (T'.setTop { g with pc := g.pc + 3, stack := .ref a :: rest }) target → Steps p.tables e below (T.setTop g) target := by
  obtain ⟨cB, h1, D, h2, h3, h4⟩ := hE
  have h1' : s.vm.findClass C = some cB := by rw [← X.warmed.alike.findClass]; exact h1
  obtain ⟨vm', X', st⟩ := X.checkcastYes hexec hown hlink h2 h4 h1' (by rw [h3]; exact Jvm.Free.SB.assignable_self _ _) hg hstack hdg
  exact ⟨_, X', rfl, fun t h => st t (by rw [← hstack] at h; exact h)⟩
namespace SEq
def yN : MethodName := ⟨"java/lang/String", "equals", "(Ljava/lang/Object;)Z"⟩
abbrev yB : ByteArray := jdk_42_method_66_code
theorem d0 : decode yB 0 = .ok (.aload_n 0, 1) := by decide +kernel
theorem d1 : decode yB 1 = .ok (.aload_n 1, 1) := by decide +kernel
theorem d2 : decode yB 2 = .ok (.if_acmp (.ne) 5, 3) := by decide +kernel
theorem d5 : decode yB 5 = .ok (.iconst 1, 1) := by decide +kernel
theorem d6 : decode yB 6 = .ok (.ireturn, 1) := by decide +kernel
theorem d7 : decode yB 7 = .ok (.aload_n 1, 1) := by decide +kernel
theorem d8 : decode yB 8 = .ok (.instanceof 10, 3) := by decide +kernel
theorem d11 : decode yB 11 = .ok (.ifCond (.eq) 43, 3) := by decide +kernel
theorem d14 : decode yB 14 = .ok (.aload_n 1, 1) := by decide +kernel
theorem d15 : decode yB 15 = .ok (.checkcast 10, 3) := by decide +kernel
theorem d18 : decode yB 18 = .ok (.astore_n 2, 1) := by decide +kernel
theorem d19 : decode yB 19 = .ok (.getstatic 38, 3) := by decide +kernel
theorem d22 : decode yB 22 = .ok (.ifCond (.eq) 14, 3) := by decide +kernel
theorem d25 : decode yB 25 = .ok (.aload_n 0, 1) := by decide +kernel
theorem d26 : decode yB 26 = .ok (.getfield 15, 3) := by decide +kernel
theorem d29 : decode yB 29 = .ok (.aload_n 2, 1) := by decide +kernel
theorem d30 : decode yB 30 = .ok (.getfield 15, 3) := by decide +kernel
theorem d33 : decode yB 33 = .ok (.if_icmp (.ne) 21, 3) := by decide +kernel
theorem d36 : decode yB 36 = .ok (.aload_n 0, 1) := by decide +kernel
theorem d37 : decode yB 37 = .ok (.getfield 9, 3) := by decide +kernel
theorem d40 : decode yB 40 = .ok (.aload_n 2, 1) := by decide +kernel
theorem d41 : decode yB 41 = .ok (.getfield 9, 3) := by decide +kernel
theorem d44 : decode yB 44 = .ok (.invokestatic 541, 3) := by decide +kernel
theorem d47 : decode yB 47 = .ok (.ifCond (.eq) 7, 3) := by decide +kernel
theorem d50 : decode yB 50 = .ok (.iconst 1, 1) := by decide +kernel
theorem d51 : decode yB 51 = .ok (.goto 4, 3) := by decide +kernel
theorem d54 : decode yB 54 = .ok (.iconst 0, 1) := by decide +kernel
theorem d55 : decode yB 55 = .ok (.ireturn, 1) := by decide +kernel
def site : List Cond := [.classLink "java/lang/String" 10 "java/lang/String", .fieldLink "java/lang/String" 38 "java/lang/String" "COMPACT_STRINGS" "Z", .fieldLink "java/lang/String" 15 "java/lang/String" "coder" "B", .fieldLink "java/lang/String" 9 "java/lang/String" "value" "[B", LEq.tab] ++ staticW "java/lang/String" 541 LEq.yN
def tab : Cond := tabOf yN yB 3 (some .boolean) site
def P (x t : Addr) (V : Cell) (cd : Int32) (n : Nat) (f : Nat → Int32) (y t' : Addr) (V' : Cell) (cd' : Int32) (k : Nat) (g : Nat → Int32) (z : Int32) (args : Array Value) (s : State) : Prop := args = #[.ref x, .ref y] ∧ Txt x t V cd n f s ∧ Txt y t' V' cd' k g s ∧ StaticIs s "java/lang/String" "COMPACT_STRINGS" "Z" (.int z) ∧ ¬ z = 0
/-- equals(Object) of two Strings: whether the texts are the same -/
theorem law (l : Launch) (x t : Addr) (V : Cell) (cd : Int32) (n : Nat) (f : Nat → Int32) (y t' : Addr) (V' : Cell) (cd' : Int32) (k : Nat) (g : Nat → Int32) (z : Int32) : Law l yN 2 1 1 14 yB 3 (some .boolean) site (P x t V cd n f y t' V' cd' k g z) (Says01 (SameT n f k g)) [] 0 0 := by
  refine Law.of_walk (plainFor_of_name (by decide +kernel)) (by decide +kernel) (by decide +kernel) (by decide) (fun _ _ h => by rw [h.1]; rfl) (fun _ U U' hal hh h => ⟨h.1, h.2.1.mv hal hh, h.2.2.1.mv hal hh, h.2.2.2.1.there hal hh, h.2.2.2.2⟩) (fun r U U' V V' h1 hal h2 h => Says01.mv r U U' V V' h1 hal h2 h) ?_
  intro p e s m args below meth c s₁ X0 hexec hbytes hml hret hlk hnm hown hh0 W hP
  obtain ⟨rfl, hx, hy, s1, hz⟩ := hP
  have c1 : Steps p.tables e below (s₁.setTop (entryFrame m #[.ref x, .ref y] 3)) (s₁.setTop (mkF m 2 #[.val (.ref x), .val (.ref y), .unset] [.ref y, .ref x])) := Steps.trans (entry rfl) (by
    show Steps p.tables e below (s₁.setTop (mkF m 0 #[.val (.ref x), .val (.ref y), .unset] [])) _
    refine XS.aloadN X0.here hexec rfl (hb hbytes d0) rfl rfl ?_
    refine XS.aloadN X0.here hexec rfl (hb hbytes d1) rfl rfl ?_
    exact Steps.refl _)
  by_cases hxy : x = y
  · have c2 : Steps p.tables e below (s₁.setTop (entryFrame m #[.ref x, .ref y] 3)) (s₁.setTop (mkF m 6 #[.val (.ref x), .val (.ref y), .unset] [.int 1])) := c1.trans (by
      refine acmpNo X0.here hexec rfl (hb hbytes d2) rfl rfl rfl (by simp [acmp, hxy]) ?_
      refine iconstV X0.here hexec rfl 1 (hb hbytes d5) (by decide) ?_
      exact Steps.refl _)
    subst hxy
    have ec : cd = cd' := by
      obtain ⟨D, fd, a1, a2, a3⟩ := hx.2.2.1
      obtain ⟨D', fd', b1, b2, b3⟩ := hy.2.2.1
      cases a1.symm.trans b1
      obtain ⟨q1, q2, q3, q4⟩ := a2.1
      obtain ⟨r1, r2, r3, r4⟩ := b2.1
      cases q4.symm.trans r4
      cases a3.symm.trans b3; rfl
    have et : t = t' := by
      obtain ⟨D, fd, a1, a2, a3⟩ := hx.2.1
      obtain ⟨D', fd', b1, b2, b3⟩ := hy.2.1
      cases a1.symm.trans b1
      obtain ⟨q1, q2, q3, q4⟩ := a2.1
      obtain ⟨r1, r2, r3, r4⟩ := b2.1
      cases q4.symm.trans r4
      cases a3.symm.trans b3; rfl
    subst ec et
    have ev : V = V' := by cases hx.2.2.2.1.1.symm.trans hy.2.2.2.1.1; rfl
    subst ev
    have hs : SameT n f k g := (Cod.eqv hx.2.2.2.2.1 hy.2.2.2.2.1 hx.2.2.2.2.2 hy.2.2.2.2.2).mp ⟨rfl, fun _ _ => rfl⟩
    exact ⟨s₁, some (.int 1), _, _, _, X0, rfl, rfl, rfl, (fun h => by cases h), ⟨1, rfl, hh0, Or.inl ⟨rfl, hs⟩⟩, fun fs hl => c2.trans (X0.ireturnOut hexec hret rfl (Or.inr (Or.inl rfl)) (hb hbytes d6) hl)⟩
  · have c2 : Steps p.tables e below (s₁.setTop (entryFrame m #[.ref x, .ref y] 3)) (s₁.setTop (mkF m 8 #[.val (.ref x), .val (.ref y), .unset] [.ref y])) := c1.trans (by
      refine acmpYes X0.here hexec rfl (pc0 := 2) rfl (hb hbytes d2) rfl rfl rfl (by simp [acmp, hxy]) (by decide) rfl ?_
      refine XS.aloadN X0.here hexec rfl (hb hbytes d7) rfl rfl ?_
      exact Steps.refl _)
    obtain ⟨T3, X3, q3, st3⟩ := cinst X0 hexec hown (wk W (.classLink "java/lang/String" 10 "java/lang/String")) (hy.mv X0.warmed.alike hh0).1 (g := (mkF m 8 #[.val (.ref x), .val (.ref y), .unset] [.ref y])) rfl (rest := []) rfl (hb hbytes d8)
    have hh3 := q3.trans hh0
    have c4 : Steps p.tables e below (s₁.setTop (entryFrame m #[.ref x, .ref y] 3)) (T3.setTop (mkF m 15 #[.val (.ref x), .val (.ref y), .unset] [.ref y])) := (c2.trans (st3 _ (Steps.refl _))).trans (by
      refine XS.ifNo X3.here hexec rfl (hb hbytes d11) rfl (i0_eq_f (by decide)) ?_
      refine XS.aloadN X3.here hexec rfl (hb hbytes d14) rfl rfl ?_
      exact Steps.refl _)
    obtain ⟨T5, X5, q5, st5⟩ := cself X3 hexec hown (wk W (.classLink "java/lang/String" 10 "java/lang/String")) (hy.mv X3.warmed.alike hh3).1 (g := (mkF m 15 #[.val (.ref x), .val (.ref y), .unset] [.ref y])) rfl (rest := []) rfl (hb hbytes d15)
    have hh5 := q5.trans hh3
    have c6 : Steps p.tables e below (s₁.setTop (entryFrame m #[.ref x, .ref y] 3)) (T5.setTop (mkF m 19 #[.val (.ref x), .val (.ref y), .val (.ref y)] [])) := (c4.trans (st5 _ (Steps.refl _))).trans (by
      refine XS.astoreN X5.here hexec rfl (hb hbytes d18) rfl rfl rfl ?_
      exact Steps.refl _)
    obtain ⟨T7, X7, q7, st7⟩ := X5.sget hexec hown (wk W (.fieldLink "java/lang/String" 38 "java/lang/String" "COMPACT_STRINGS" "Z")) s1 (fun _ _ h => by rw [hh5]; exact h) (g := (mkF m 19 #[.val (.ref x), .val (.ref y), .val (.ref y)] [])) rfl (hb hbytes d19)
    have hh7 := q7.trans hh5
    have c8 : Steps p.tables e below (s₁.setTop (entryFrame m #[.ref x, .ref y] 3)) (T7.setTop (mkF m 26 #[.val (.ref x), .val (.ref y), .val (.ref y)] [.ref x])) := (c6.trans (st7 _ (Steps.refl _))).trans (by
      refine XS.ifNo X7.here hexec rfl (hb hbytes d22) rfl (i0_eq_f hz) ?_
      refine XS.aloadN X7.here hexec rfl (hb hbytes d25) rfl rfl ?_
      exact Steps.refl _)
    obtain ⟨T9, X9, q9, st9⟩ := X7.hget hexec hown (wk W (.fieldLink "java/lang/String" 15 "java/lang/String" "coder" "B")) (hx.mv X7.warmed.alike hh7).2.2.1 (g := (mkF m 26 #[.val (.ref x), .val (.ref y), .val (.ref y)] [.ref x])) rfl (rest := []) rfl (hb hbytes d26)
    have hh9 := q9.trans hh7
    have c10 : Steps p.tables e below (s₁.setTop (entryFrame m #[.ref x, .ref y] 3)) (T9.setTop (mkF m 30 #[.val (.ref x), .val (.ref y), .val (.ref y)] [.ref y, .int cd])) := (c8.trans (st9 _ (Steps.refl _))).trans (by
      refine XS.aloadN X9.here hexec rfl (hb hbytes d29) rfl rfl ?_
      exact Steps.refl _)
    obtain ⟨T11, X11, q11, st11⟩ := X9.hget hexec hown (wk W (.fieldLink "java/lang/String" 15 "java/lang/String" "coder" "B")) (hy.mv X9.warmed.alike hh9).2.2.1 (g := (mkF m 30 #[.val (.ref x), .val (.ref y), .val (.ref y)] [.ref y, .int cd])) rfl (rest := [.int cd]) rfl (hb hbytes d30)
    have hh11 := q11.trans hh9
    have c12 : Steps p.tables e below (s₁.setTop (entryFrame m #[.ref x, .ref y] 3)) (T11.setTop (mkF m 33 #[.val (.ref x), .val (.ref y), .val (.ref y)] [.int cd', .int cd])) := c10.trans (st11 _ (Steps.refl _))
    by_cases hcd : cd = cd'
    · subst hcd
      have c13 : Steps p.tables e below (s₁.setTop (entryFrame m #[.ref x, .ref y] 3)) (T11.setTop (mkF m 37 #[.val (.ref x), .val (.ref y), .val (.ref y)] [.ref x])) := c12.trans (by
        refine XS.icmpNo X11.here hexec rfl (hb hbytes d33) rfl (ii_ne_f rfl) ?_
        refine XS.aloadN X11.here hexec rfl (hb hbytes d36) rfl rfl ?_
        exact Steps.refl _)
      obtain ⟨T14, X14, q14, st14⟩ := X11.hget hexec hown (wk W (.fieldLink "java/lang/String" 9 "java/lang/String" "value" "[B")) (hx.mv X11.warmed.alike hh11).2.1 (g := (mkF m 37 #[.val (.ref x), .val (.ref y), .val (.ref y)] [.ref x])) rfl (rest := []) rfl (hb hbytes d37)
      have hh14 := q14.trans hh11
      have c15 : Steps p.tables e below (s₁.setTop (entryFrame m #[.ref x, .ref y] 3)) (T14.setTop (mkF m 41 #[.val (.ref x), .val (.ref y), .val (.ref y)] [.ref y, .ref t])) := (c13.trans (st14 _ (Steps.refl _))).trans (by
        refine XS.aloadN X14.here hexec rfl (hb hbytes d40) rfl rfl ?_
        exact Steps.refl _)
      obtain ⟨T16, X16, q16, st16⟩ := X14.hget hexec hown (wk W (.fieldLink "java/lang/String" 9 "java/lang/String" "value" "[B")) (hy.mv X14.warmed.alike hh14).2.1 (g := (mkF m 41 #[.val (.ref x), .val (.ref y), .val (.ref y)] [.ref y, .ref t])) rfl (rest := [.ref t]) rfl (hb hbytes d41)
      have hh16 := q16.trans hh14
      have c17 : Steps p.tables e below (s₁.setTop (entryFrame m #[.ref x, .ref y] 3)) (T16.setTop (mkF m 44 #[.val (.ref x), .val (.ref y), .val (.ref y)] [.ref t', .ref t])) := c15.trans (st16 _ (Steps.refl _))
      obtain ⟨v18, T18, X18, E18, g18⟩ := X16.callS hexec (LEq.law l t V t' V') hown (wks W (staticW "java/lang/String" 541 LEq.yN)) (wk W LEq.tab) (W := 0) (Nat.le_of_ble_eq_true rfl) (Nat.le_of_ble_eq_true rfl) (Nat.le_refl _) (Nat.le_refl _) (g := (mkF m 44 #[.val (.ref x), .val (.ref y), .val (.ref y)] [.ref t', .ref t])) rfl (by rw [hml]; rfl) c17 (argsL := [.ref t, .ref t']) (rest := []) rfl rfl (by show 2 * 0 + 0 ≤ _; decide) (hb hbytes d44) (⟨rfl, hx.2.2.2.1.mv X16.warmed.alike hh16, hx.2.2.2.2.1.ty, hy.2.2.2.1.mv X16.warmed.alike hh16, hy.2.2.2.2.1.ty⟩)
      obtain ⟨v, rfl, q18, hv⟩ := E18
      have iff := Cod.eqv hx.2.2.2.2.1 hy.2.2.2.2.1 hx.2.2.2.2.2 hy.2.2.2.2.2
      rcases hv with ⟨rfl, he⟩ | ⟨rfl, he⟩
      · have c19 : Steps p.tables e below (s₁.setTop (entryFrame m #[.ref x, .ref y] 3)) (T18.setTop (mkF m 55 #[.val (.ref x), .val (.ref y), .val (.ref y)] [.int 1])) := Steps.trans g18 (by
          refine XS.ifNo X18.here hexec rfl (hb hbytes d47) rfl (i0_eq_f (by decide)) ?_
          refine iconstV X18.here hexec rfl 1 (hb hbytes d50) (by decide) ?_
          refine XS.goto X18.here hexec rfl (pc0 := 51) rfl (hb hbytes d51) (by decide) rfl ?_
          exact Steps.refl _)
        exact ⟨T18, some (.int 1), _, _, _, X18, rfl, rfl, rfl, (fun h => by cases h), ⟨1, rfl, q18.trans hh16, Or.inl ⟨rfl, iff.mp he⟩⟩, fun fs hl => c19.trans (X18.ireturnOut hexec hret rfl (Or.inr (Or.inl rfl)) (hb hbytes d55) hl)⟩
      · have c19 : Steps p.tables e below (s₁.setTop (entryFrame m #[.ref x, .ref y] 3)) (T18.setTop (mkF m 55 #[.val (.ref x), .val (.ref y), .val (.ref y)] [.int 0])) := Steps.trans g18 (by
          refine XS.ifYes X18.here hexec rfl (pc0 := 47) rfl (hb hbytes d47) rfl (i0_eq_t rfl) (by decide) rfl ?_
          refine iconstV X18.here hexec rfl 0 (hb hbytes d54) (by decide) ?_
          exact Steps.refl _)
        exact ⟨T18, some (.int 0), _, _, _, X18, rfl, rfl, rfl, (fun h => by cases h), ⟨0, rfl, q18.trans hh16, Or.inr ⟨rfl, fun q => he (iff.mpr q)⟩⟩, fun fs hl => c19.trans (X18.ireturnOut hexec hret rfl (Or.inr (Or.inl rfl)) (hb hbytes d55) hl)⟩
    · have c13 : Steps p.tables e below (s₁.setTop (entryFrame m #[.ref x, .ref y] 3)) (T11.setTop (mkF m 55 #[.val (.ref x), .val (.ref y), .val (.ref y)] [.int 0])) := c12.trans (by
        refine XS.icmpYes X11.here hexec rfl (pc0 := 33) rfl (hb hbytes d33) rfl (ii_ne_t hcd) (by decide) rfl ?_
        refine iconstV X11.here hexec rfl 0 (hb hbytes d54) (by decide) ?_
        exact Steps.refl _)
      exact ⟨T11, some (.int 0), _, _, _, X11, rfl, rfl, rfl, (fun h => by cases h), ⟨0, rfl, hh11, Or.inr ⟨rfl, Cod.dif hx.2.2.2.2.1 hy.2.2.2.2.1 hcd⟩⟩, fun fs hl => c13.trans (X11.ireturnOut hexec hret rfl (Or.inr (Or.inl rfl)) (hb hbytes d55) hl)⟩
theorem pays {l : Launch} {R : Room} {p : Program} {e : Env} {below : List Frame} {s : State} {sargs : Array Value} {len W : Nat} (x t : Addr) (V : Cell) (cd : Int32) (n : Nat) (f : Nat → Int32) (y t' : Addr) (V' : Cell) (cd' : Int32) (k : Nat) (g : Nat → Int32) (z : Int32) (htab : tab.before sargs s = true) (hfr : 2 ≤ R.frames) (hlo : W + 28 ≤ R.locals) :
    Back l R p e below s sargs yN len W (fun A₁ a₁ => A₁.cells + 0 ≤ R.cells ∧ A₁.slots + 0 ≤ R.slots ∧ P x t V cd n f y t' V' cd' k g z a₁ A₁.U) (fun A₁ _ v₁ B₁ => Says01 (SameT n f k g) v₁ A₁.U B₁.U ∧ B₁.locs = A₁.locs ++ [] ∧ B₁.cells = A₁.cells + 0 ∧ B₁.slots = A₁.slots + 0) :=
  (law l x t V cd n f y t' V' cd' k g z).pays htab hfr (by omega)
end SEq
end StrChars
namespace StrChars.Road
open Jvm Sem ClassFile Op Lib Jvm.Stand Jvm.Free Jvm.Free.XT
open Jvm.Lib.Cold (StaticIs)
/-- the words of String.equals(Object) -/
abbrev wordsEq : List Jvm.Cond := [.code SEq.yN SEq.yB 3 (some .boolean), .initialized ST, .classLink ST 10 ST, .fieldLink ST 38 ST "COMPACT_STRINGS" "Z", .fieldLink ST 15 ST "coder" "B", .fieldLink ST 9 ST "value" "[B", .methodLink ST 541 LEq.yN, .static LEq.yN, .code LEq.yN LEq.yB 3 (some .boolean), .initialized "java/lang/StringLatin1"]
theorem tabEq_of {a : Array Value} {s : State} (h : ∀ w ∈ wordsEq, w.before a s = true) : SEq.tab.before a s = true := by
  have hl : LEq.tab.before a s = true := unparts (wk h (.code LEq.yN LEq.yB 3 (some .boolean))) (wks h (.initialized LEq.yN.cls :: LEq.site))
  have q := consq hl h
  exact unparts (wk q (.code SEq.yN SEq.yB 3 (some .boolean))) (wks q (.initialized SEq.yN.cls :: SEq.site))
theorem movedEq {Z s : State} {a0 args : Array Value} (hZ : Z.Warmed39 s.vm) (hw : ∀ d ∈ wordsEq, d.before a0 Z = true) : ∀ d ∈ wordsEq, d.before args s = true := fun d hd => by
  have t : ∀ d ∈ wordsEq, (d.onTables && d.keepsFace) = true := by decide +kernel
  exact RoadKit.mv hZ (hw d hd) (t d hd)
/-- the road's facts of a String, as the laws ask it -/
theorem txt_of {Z U : State} {a0 : Array Value} {kI : Nat} (wi : (Jvm.Cond.instantiable ST kI).before a0 Z = true) (al : Z.vm.Alike U.vm) {x t : Addr} {kb : ClassId} {cs : List Int32} {cd N2 : Int32} {vs : List Value} (E : RoadKit.Exa Z U.heap x ST) (V : RoadKit.Fld Z U.heap x ST "value" "[B" (.ref t)) (C : RoadKit.Fld Z U.heap x ST "coder" "B" (.int cd)) (K : RoadKit.Arv Z U.heap t kb .byte N2 vs (.int 0)) (hc : CodA cs cd N2 vs) (hb : ∀ c ∈ cs, ¬ c < 0 ∧ ¬ (65535 : Int32) < c) (l2 : cs.length ≤ 4000) :
    ∃ A, Txt x t A cd cs.length (fun j => cs.getD j 0) U := by
  obtain ⟨A, K1, K2, K3, K4, K5, K6⟩ := K
  have hcod := hc.cod (by omega) K3 K5
  obtain ⟨D, fV, fC, hB, F1, F2, g1, g2, -, -⟩ := strObj wi al E V C
  exact ⟨A, ⟨_, hB.2.2.1, D, hB.1, rfl, by cases q : D.vm <;> first | rfl | exact absurd q (hB.2.1.2 _)⟩, Has.of hB F1 g1, Has.of hB F2 g2, ⟨K1.1, State.isArrayOf_alike al K1.2.1, K1.2.2, by rcases hcod with ⟨-, q, -⟩ | ⟨-, q, -⟩ <;> omega⟩, hcod, fun j hj => by
    have e : cs.getD j 0 = cs[j] := by simp [List.getD_eq_getElem?_getD, hj]
    show ¬ cs.getD j 0 < 0 ∧ ¬ 65535 < cs.getD j 0
    rw [e]; exact hb _ (List.getElem_mem _)⟩
theorem same_list (cs ds : List Int32) : SameT cs.length (fun j => cs.getD j 0) ds.length (fun j => ds.getD j 0) ↔ cs = ds := by
  constructor
  · rintro ⟨e, q⟩
    refine List.ext_getElem e fun j h1 h2 => ?_
    have := q j h1
    simpa [List.getD_eq_getElem?_getD, h1, h2] using this
  · rintro rfl
    exact ⟨rfl, fun _ _ => rfl⟩
/-- **equals(Object) OF TWO SUCH STRINGS**: 1 just where the chars are the same -/
theorem eqW {p : Program} {l : Launch} {e : Env} {R : Room} {s : State} {args : Array Value} {below : List Frame} {len W : Nat} {Z : State} {a0 : Array Value} {h : Heap} (hZ : Z.Warmed39 s.vm) (hw : ∀ d ∈ wordsEq, d.before a0 Z = true) {kI : Nat} (wi : (Jvm.Cond.instantiable ST kI).before a0 Z = true)
    {x t : Addr} {kb : ClassId} {cs : List Int32} {cd N2 : Int32} {vs : List Value} (E : RoadKit.Exa Z h x ST) (V : RoadKit.Fld Z h x ST "value" "[B" (.ref t)) (C : RoadKit.Fld Z h x ST "coder" "B" (.int cd)) (K : RoadKit.Arv Z h t kb .byte N2 vs (.int 0)) (hc : CodA cs cd N2 vs) (hb : ∀ c ∈ cs, ¬ c < 0 ∧ ¬ (65535 : Int32) < c) (l2 : cs.length ≤ 4000)
    {y t' : Addr} {kb' : ClassId} {ds : List Int32} {cd' N2' : Int32} {vs' : List Value} (E' : RoadKit.Exa Z h y ST) (V' : RoadKit.Fld Z h y ST "value" "[B" (.ref t')) (C' : RoadKit.Fld Z h y ST "coder" "B" (.int cd')) (K' : RoadKit.Arv Z h t' kb' .byte N2' vs' (.int 0)) (hc' : CodA ds cd' N2' vs') (hb' : ∀ c ∈ ds, ¬ c < 0 ∧ ¬ (65535 : Int32) < c) (l2' : ds.length ≤ 4000)
    {z : Int32} (S : RoadKit.Sta Z h ST "COMPACT_STRINGS" "Z" (.int z)) (hz : ¬ z = 0) (hfr : 2 ≤ R.frames) (hlo : W + 28 ≤ R.locals) :
    Back l R p e below s args (⟨"java/lang/String", "equals", "(Ljava/lang/Object;)Z"⟩ : MethodName) len W (fun P a => a = #[.ref x, .ref y] ∧ P.U.heap = h ∧ P.cells + 0 ≤ R.cells ∧ P.slots + 0 ≤ R.slots)
      (fun P _ v B => ∃ L, (((v = some (.int 1) ∧ cs = ds) ∨ (v = some (.int 0) ∧ ¬ cs = ds)) ∧ L = [] ∧ B.U.heap = h) ∧ B.locs = P.locs ++ L ∧ B.cells = P.cells + 0 ∧ B.slots = P.slots + 0) := by
  intro m meth c P g ig mk a X hg hsize hdg hW hn hp'
  obtain ⟨rfl, rfl, r1, r2⟩ := hp'
  have al : Z.vm.Alike P.U.vm := hZ.alike.trans X.warmed.alike
  obtain ⟨A, hx⟩ := txt_of wi al E V C K hc hb l2
  obtain ⟨A', hy⟩ := txt_of wi al E' V' C' K' hc' hb' l2'
  obtain ⟨v, B, X', ⟨⟨w, hv, hh, hq⟩, hl, hk, hs⟩, st⟩ := SEq.pays x t A cd cs.length (fun j => cs.getD j 0) y t' A' cd' ds.length (fun j => ds.getD j 0) z (tabEq_of (movedEq hZ hw)) hfr hlo m meth c P g ig mk _ X hg hsize hdg hW hn ⟨r1, r2, rfl, hx, hy, sta_is al S, hz⟩
  refine ⟨v, B, X', ⟨[], ⟨?_, rfl, hh⟩, hl, hk, hs⟩, st⟩
  rcases hq with ⟨rfl, q⟩ | ⟨rfl, q⟩
  · exact Or.inl ⟨hv, (same_list cs ds).mp q⟩
  · exact Or.inr ⟨hv, fun e => q ((same_list cs ds).mpr e)⟩
end StrChars.Road
namespace StrChars.Road
open Jvm Sem ClassFile Op Lib Jvm.Stand Jvm.Free Jvm.Free.XT
open Jvm.Lib.Cold (StaticIs)
/-- what backV says of its String, as the contracts of this text ask it: cs's low bytes, coder 0 -/
theorem codOf {cs : List Int32} {n : Nat} (hn : cs.length = n) (hb : ∀ c ∈ cs, ¬ 255 < c) : CodA cs 0 (Int32.ofNat n) ((cs.map lo8).map Value.int) := Or.inl ⟨rfl, by rw [hn], by simp [List.map_map, Function.comp_def], hb⟩
end StrChars.Road
end Jvm.Pilot.@@N@@

namespace Jvm.Pilot.@@N@@
open Jvm Jvm.ClassFile Sem Op Lib Jvm.Free Jvm.Stand Jvm.LawKit Jvm.RoadKit Bundle Jvm.Pilot.@@N@@.Jvm.D
theorem own_k {Z : State} {a0 : Array Value} (hw : ∀ d ∈ tables_1, d.before a0 Z = true) (i : Nat) {d : Jvm.Cond} (h : tables_1[i]? = some d) : d.before a0 Z = true := hw _ (List.mem_of_getElem? h)
abbrev own_EL : List (String × Nat) := [("java/lang/String", 7)]
section OwnWide
variable {p : Program} {l : Launch} {e : Env} {R : Room} {s : State} {args : Array Value} {below : List Frame} {Z : State} {a0 : Array Value} {EL : List (String × Nat)} {h : Heap} {vm0 : Vm}
/-- a callee whose law keeps the held constants and asks that some cells are none of theirs -/
theorem own_backSQ {y : MethodName} {bytes : ByteArray} {maxL : Nat} {ret : Option FieldType} {rm : Room} {len W : Nat} {as' : Array Value} {Q : Option Value → Heap → List Loc → Prop} {qs : List Addr}
    (hM : MetFree l y (head1 [Jvm.Cond.code y bytes maxL ret] rm) (fun a U => a = as' ∧ Z.Warmed39 U.vm ∧ U.heap = h ∧ CHv Z EL U.vm h ∧ ∀ x ∈ qs, Safe Z EL U.vm h x) (fun _ _ _ _ _ => True) (fun _ U o U' => ∃ v L, o = .returned v ∧ Q v U'.heap L ∧ CHr Z EL U.vm U.heap U'.vm U'.heap ∧ ReturnedEndW U o U' L rm.cells rm.slots))
    (hZ : Z.Warmed39 vm0) (wc : (Jvm.Cond.code y bytes maxL ret).before a0 Z = true) (wz : (Jvm.Cond.initialized y.cls).before a0 Z = true) (hf : rm.frames + 1 ≤ R.frames) (hl : W + (maxL + 11) + rm.locals ≤ R.locals) (hEL : EW Z a0 EL) (H : CHv Z EL vm0 h) (hq : ∀ x ∈ qs, Safe Z EL vm0 h x) (hlt : ∀ x ∈ qs, x < h.size) :
    BackS l R p e below (s.setVm vm0) args y len W (fun A a => a = as' ∧ A.U.heap = h ∧ A.cells + rm.cells ≤ R.cells ∧ A.slots + rm.slots ≤ R.slots)
      (fun A _ v B => ∃ L, Q v B.U.heap L ∧ B.locs = A.locs ++ L ∧ B.cells = A.cells + rm.cells ∧ B.slots = A.slots + rm.slots ∧ CHr Z EL vm0 h B.U.vm B.U.heap) := by
  refine BackS.of_freeW (bytes := bytes) (maxL := maxL) (ret := ret) (E := fun _ first o t L k n => k = rm.cells ∧ n = rm.slots ∧ (∃ v, o = .returned v ∧ Q v t.heap L) ∧ CHr Z EL first.vm first.heap t.vm t.heap) hM hf hl ?_ ?_ (fun _ _ _ _ _ _ _ _ _ => trivial) ?_ ?_
  · intro m meth c A a Y hp
    have hU : Z.Warmed39 A.U.vm := wtrans (s := s.setVm vm0) hZ Y.warmed
    refine ⟨?_, mv hU wc, mv hU wz, hp.2.2.1, hp.2.2.2⟩
    show (Jvm.Cond.and _ .tt).before a A.U = true
    rw [Cond.before_and, mv hU wc]; rfl
  · intro m meth c A a g mk Y hp
    have B := CHv.at Y hZ hEL H
    exact ⟨hp.1, wtrans (s := s.setVm vm0) hZ Y.warmed, hp.2.1, B.1, fun x hx => B.safe (hlt x hx) (hq x hx)⟩
  · rintro a first o t ⟨v, L, h1, h2, h3, h4⟩
    exact ⟨L, _, _, h4, rfl, rfl, ⟨v, h1, h2⟩, h3⟩
  · rintro m meth c A a g mk v t L k n Y hp - - ⟨e1, e2, ⟨v', e3, e4⟩, e5⟩
    cases e3; subst e1 e2
    refine ⟨L, e4, rfl, rfl, rfl, (CHv.at Y hZ hEL H).trans ?_⟩
    rw [← hp.2.1]; exact e5
end OwnWide
theorem and255_chars (x : Int32) : ¬ nar .char ((x &&& (255 : Int32)).toUInt32.toUInt16.toUInt32.toInt32) < 0 ∧ ¬ (255 : Int32) < nar .char ((x &&& (255 : Int32)).toUInt32.toUInt16.toUInt32.toInt32) := by
  have t : ∀ k : Fin 256, ¬ nar .char ((Int32.ofNat k.val).toUInt32.toUInt16.toUInt32.toInt32) < 0 ∧ ¬ (255 : Int32) < nar .char ((Int32.ofNat k.val).toUInt32.toUInt16.toUInt32.toInt32) := by decide +kernel
  have h : (x &&& 255).toBitVec.toNat < 256 := by
    simp only [Int32.toBitVec_and, BitVec.toNat_and]
    exact Nat.lt_succ_of_le Nat.and_le_right
  have e : (x &&& 255) = Int32.ofNat (x &&& 255).toBitVec.toNat := by
    apply Int32.toBitVec_inj.mp
    show _ = BitVec.ofNat 32 _
    rw [BitVec.ofNat_toNat]; simp
  rw [e]
  exact t ⟨_, h⟩
theorem up (cs : List Int32) (h : ∀ c ∈ cs, ¬ c < 0 ∧ ¬ (255 : Int32) < c) : ∀ c ∈ cs, ¬ c < 0 ∧ ¬ (65535 : Int32) < c := fun c hc => ⟨(h c hc).1, fun q => (h c hc).2 (by rw [Int32.lt_iff_toInt_lt] at q ⊢; have e1 : (65535 : Int32).toInt = 65535 := rfl; have e2 : (255 : Int32).toInt = 255 := rfl; omega)⟩
/-- 0 to 255 -/
def own_C (c : Int32) : Prop := ¬ c < 0 ∧ ¬ (255 : Int32) < c
theorem own_nar {c : Int32} (h : own_C c) : nar .char c = c := by
  obtain ⟨h1, h2⟩ := h
  have q := c_i2c c
  have r := rng32 c
  rw [Int32.lt_iff_toInt_lt] at h1 h2
  have e0 : (0 : Int32).toInt = 0 := rfl
  have e1 : (255 : Int32).toInt = 255 := rfl
  show c.toUInt32.toUInt16.toUInt32.toInt32 = c
  rw [← Int32.toInt_inj]
  omega
theorem own_narC {c : Int32} (h : own_C c) : ¬ nar .char c < 0 ∧ ¬ (255 : Int32) < nar .char c := by rw [own_nar h]; exact h
theorem own_and255 (x : Int32) : own_C ((x &&& (255 : Int32)).toUInt32.toUInt16.toUInt32.toInt32) := by
  have a := c_and x (255 : Int32) (by decide)
  have q := c_i2c (x &&& (255 : Int32))
  have e0 : (0 : Int32).toInt = 0 := rfl
  have e1 : (255 : Int32).toInt = 255 := rfl
  unfold own_C
  rw [Int32.lt_iff_toInt_lt, Int32.lt_iff_toInt_lt]
  omega
def own_N (n : Int32) : Prop := n = 0 ∨ n = 1 ∨ n = 2
theorem own_mod3 (x : Int32) : own_N ((x &&& (3 : Int32)) % (3 : Int32)) := by
  have b := c_and x (3 : Int32) (by decide)
  have r := (c_irem (x &&& (3 : Int32)) (3 : Int32) 3 rfl).1 b.1
  have e0 : (0 : Int32).toInt = 0 := rfl
  have e1 : (1 : Int32).toInt = 1 := rfl
  have e2 : (2 : Int32).toInt = 2 := rfl
  unfold own_N
  simp only [← Int32.toInt_inj]
  omega
/-- what the helper's String spells -/
def own_cs (n c0 c1 : Int32) : List Int32 := if n = (0 : Int32) then [] else if n = (1 : Int32) then [c0] else [c0, c1]
theorem own_csC {n c0 c1 : Int32} (h0 : own_C c0) (h1 : own_C c1) : ∀ c ∈ own_cs n c0 c1, ¬ c < 0 ∧ ¬ (255 : Int32) < c := by
  intro c hc
  unfold own_cs at hc
  split at hc
  · cases hc
  · split at hc
    · simp only [List.mem_cons, List.not_mem_nil, or_false] at hc; subst hc; exact h0
    · simp only [List.mem_cons, List.not_mem_nil, or_false] at hc
      rcases hc with rfl | rfl
      · exact h0
      · exact h1
theorem own_csL (n c0 c1 : Int32) : (own_cs n c0 c1).length ≤ 4000 := by
  unfold own_cs
  split
  · exact Nat.zero_le _
  · split
    · exact Nat.le_of_ble_eq_true rfl
    · exact Nat.le_of_ble_eq_true rfl
theorem own_csA {n c0 c1 : Int32} (h0 : own_C c0) (h1 : own_C c1) : StrChars.Road.CodA (own_cs n c0 c1) 0 (Int32.ofNat (own_cs n c0 c1).length) (((own_cs n c0 c1).map (fun c => c.toInt8.toInt32)).map Value.int) := StrChars.Road.codOf (n := (own_cs n c0 c1).length) rfl (fun x hx => (own_csC h0 h1 x hx).2)
theorem own_pn_0 : plainName "java/lang/String" = true := by first | (simp [plainName, overriddenIn]; done) | decide +kernel
theorem d3_0 : decode jdk_42_method_149_code 0 = .ok (.aload_n 0, 1) := by decide +kernel
theorem d3_1 : decode jdk_42_method_149_code 1 = .ok (.invokespecial 1, 3) := by decide +kernel
theorem d3_4 : decode jdk_42_method_149_code 4 = .ok (.iload_n 3, 1) := by decide +kernel
theorem d3_5 : decode jdk_42_method_149_code 5 = .ok (.ifCond .ne 22, 3) := by decide +kernel
theorem d3_8 : decode jdk_42_method_149_code 8 = .ok (.aload_n 0, 1) := by decide +kernel
theorem d3_9 : decode jdk_42_method_149_code 9 = .ok (.ldc 7, 2) := by decide +kernel
theorem d3_11 : decode jdk_42_method_149_code 11 = .ok (.getfield 9, 3) := by decide +kernel
theorem d3_14 : decode jdk_42_method_149_code 14 = .ok (.putfield 9, 3) := by decide +kernel
theorem d3_17 : decode jdk_42_method_149_code 17 = .ok (.aload_n 0, 1) := by decide +kernel
theorem d3_18 : decode jdk_42_method_149_code 18 = .ok (.ldc 7, 2) := by decide +kernel
theorem d3_20 : decode jdk_42_method_149_code 20 = .ok (.getfield 15, 3) := by decide +kernel
theorem d3_23 : decode jdk_42_method_149_code 23 = .ok (.putfield 15, 3) := by decide +kernel
theorem d3_26 : decode jdk_42_method_149_code 26 = .ok (.return_, 1) := by decide +kernel
theorem ef_s4 (m : MethodId) (a1 : Addr) (a2 : Addr) : entryFrame m #[(.ref a1), (.ref a2), (.int (0 : Int32)), (.int (0 : Int32)), .null] 6 = mkF m 0 #[.val (.ref a1), .val (.ref a2), .val (.int (0 : Int32)), .val (.int (0 : Int32)), .val .null, .unset] [] := by first | (simp [entryFrame, mkF, argsToLocals, Value.category]; done) | rfl
def Qs4 (Z : State) (a1 : Addr) (a2 : Addr) (h0 : Heap) (n0 : Nat) (v : Option Value) (h : Heap) (L : List Loc) : Prop := ∃ (tt : Addr) (kk : ClassId), Fr n0 L ∧ Keep h0 h [a1] ∧ Exa Z h a1 "java/lang/String" ∧ Fld Z h a1 "java/lang/String" "coder" "B" (.int (0 : Int32)) ∧ Fld Z h a1 "java/lang/String" "value" "[B" (.ref tt) ∧ Arv Z h tt kk .byte (0 : Int32) [] (.int (0 : Int32)) ∧ (v = none)
set_option maxRecDepth 65536 in
set_option maxHeartbeats 40000000 in
theorem rmS4 (l : Launch) (Z : State) (a0 : Array Value) (hw : ∀ d ∈ tables_1, d.before a0 Z = true) (ws : List Jvm.Cond) (a1 : Addr) (a2 : Addr) (h0 : Heap) (n0 : Nat) (Z0 : n0 ≤ h0.size) (hE : Exa Z h0 a1 "java/lang/String") (hF1 : Fld Z h0 a1 "java/lang/String" "value" "[B" .null) (hF2 : Fld Z h0 a1 "java/lang/String" "coder" "B" (.int (0 : Int32))) (hG1 : n0 ≤ a1) :
    MetFree l (⟨"java/lang/String", "<init>", "([CIILjava/lang/Void;)V"⟩ : MethodName) (head1 (Jvm.Cond.code (⟨"java/lang/String", "<init>", "([CIILjava/lang/Void;)V"⟩ : MethodName) jdk_42_method_149_code 6 none :: ws) ({ frames := 1, cells := 2, slots := 4, locals := 12 } : Room)) (fun a U => a = #[(.ref a1), (.ref a2), (.int (0 : Int32)), (.int (0 : Int32)), .null] ∧ Z.Warmed39 U.vm ∧ U.heap = h0 ∧ CHv Z own_EL U.vm h0 ∧ ∀ x ∈ ([a1] : List Addr), Safe Z own_EL U.vm h0 x) (fun _ _ _ _ _ => True) (fun _ U o U' => ∃ v L, o = .returned v ∧ Qs4 Z a1 a2 h0 n0 v U'.heap L ∧ CHr Z own_EL U.vm U.heap U'.vm U'.heap ∧ ReturnedEndW U o U' L ({ frames := 1, cells := 2, slots := 4, locals := 12 } : Room).cells ({ frames := 1, cells := 2, slots := 4, locals := 12 } : Room).slots) := by
  refine MetFree.of_bodySF (plainFor_of_name own_pn_0) hisR ?_
  intro p e s m args below meth c s₁ Bd hml0 hP hK
  obtain ⟨rfl, hZ, hh, hCH, hQs⟩ := hP
  have hx := Bd.exec
  have hby := Bd.bytes
  have hml : c.maxLocals = 6 := hml0
  have hown : s.vm.findClass "java/lang/String" = some m.cls := findClass_of_methodNamed Bd.named
  have hnm := (name_of_methodNamed Bd.named Bd.method).1
  have X0 : Stand p l e ({ frames := 1, cells := 2, slots := 4, locals := 12 } : Room) (s.setVm s.vm) m #[(.ref a1), (.ref a2), (.int (0 : Int32)), (.int (0 : Int32)), .null] below meth c s₁ [] 0 0 := Stand.of_body Bd
  have e0 : s₁.heap = h0 := by rw [← hh, Bd.state]; rfl
  have N0 := Fr.nil n0
  have pre0 : ∀ t, Steps p.tables e below (s₁.setTop (mkF m 0 #[.val (.ref a1), .val (.ref a2), .val (.int (0 : Int32)), .val (.int (0 : Int32)), .val .null, .unset] [])) t → Steps p.tables e below (s₁.setTop (entryFrame m #[(.ref a1), (.ref a2), (.int (0 : Int32)), (.int (0 : Int32)), .null] 6)) t := fun t k => castTop (ef_s4 m a1 a2) k
  have hZ0 := hZ
  have hown0 := hown
  have hEL : EW Z a0 own_EL := (EW.cons (own_k hw 19 rfl) (by decide) EW.nil)
  have hwS : ∀ a ∈ Bundle.stringAtoms, a.before a0 Z = true := fun d hd => hw d ((by decide +kernel : ∀ d ∈ Bundle.stringAtoms, d ∈ tables_1) d hd)
  have hS0 : s.Since s.vm h0.size := (State.WarmedH.refl s).since _
  have Y0 : h0.size ≤ h0.size := Nat.le_refl _
  have R0 : CHr Z own_EL s.vm h0 s.vm h0 := CHr.refl hCH
  have q_a1 := hQs a1 (List.mem_of_getElem? (i := 0) rfl)
  obtain ⟨T1, X1, e1, st1⟩ := initO X0 hx hZ0 hown0 (own_k hw 16 rfl) (own_k hw 17 rfl) (own_k hw 18 rfl) e0 (g := (mkF m 1 #[.val (.ref a1), .val (.ref a2), .val (.int (0 : Int32)), .val (.int (0 : Int32)), .val .null, .unset] [(.ref a1)])) rfl (by rw [hml]; rfl) rfl (hb hby d3_1) (by decide) (W := 0) (by show 2 * 0 + _ ≤ _; exact Nat.le_of_eq rfl) (by decide)
  obtain ⟨aa2, T2, h2, k2, b2, c2, X2, e2, E2, hS2, hk2, hZ2, hown2, pE2, pC2, pV2, pA2, la2, lb2, hR2, hL2, hne2, st2⟩ := ldcCH X1 hx hZ0 hown0 (own_k hw 19 rfl) hwS e1 hS0 Y0 hEL (List.mem_of_getElem? (i := 0) rfl) R0.1 (vs := []) (z := (0 : Int32)) ⟨by decide, by decide⟩ (by decide) rfl (g := (mkF m 9 #[.val (.ref a1), .val (.ref a2), .val (.int (0 : Int32)), .val (.int (0 : Int32)), .val .null, .unset] [(.ref a1)])) rfl (hb hby d3_9) (n := 0) (by decide) (by decide) (by decide) (by decide)
  have K3 : Keep h0 h2 [a1] := (Keep.refl h0 [a1]).ext E2
  have R4 : CHr Z own_EL s.vm h0 T2.vm h2 := R0.trans (hR2)
  have f5 : Safe Z own_EL T2.vm h2 a1 := (hR2.safe hE.lt q_a1)
  obtain ⟨T6, X6, e6, st6⟩ := getF X2 hx hZ2 hown2 (host := "") (Or.inl (own_k hw 25 rfl)) Via.refl e2 pV2 (g := (mkF m 11 #[.val (.ref a1), .val (.ref a2), .val (.int (0 : Int32)), .val (.int (0 : Int32)), .val .null, .unset] [(.ref aa2), (.ref a1)])) rfl rfl (hb hby d3_11)
  have f7 : Fld Z h2 a1 "java/lang/String" "value" "[B" .null := (hF1.ext E2)
  have f8 : Exa Z h2 a1 "java/lang/String" := (hE.ext E2)
  obtain ⟨T9, h9, X9, e9, W9, st9⟩ := putF X6 hx hZ2 hown2 (host := "") (Or.inl (own_k hw 25 rfl)) Via.refl e6 f7 f8 (Or.inr ⟨(own_k hw 21 rfl), rfl, hnm⟩) (own_k hw 6 rfl) (ty := (.array .byte)) (by decide) rfl rfl (g := (mkF m 14 #[.val (.ref a1), .val (.ref a2), .val (.int (0 : Int32)), .val (.int (0 : Int32)), .val .null, .unset] [(.ref b2), (.ref a1)])) rfl rfl (hb hby d3_14)
  have R10 : CHr Z own_EL s.vm h0 T2.vm h9 := R4.trans (CHr.wr W9 f5 R4.1)
  have N9 := Fr.snoc X9 N0 hG1
  have K11 : Keep h0 h9 [a1] := K3.wr W9 (Or.inl (List.mem_of_getElem? (i := 0) rfl))
  have Fw9 : Fld Z h9 a1 "java/lang/String" "value" "[B" (.ref b2) := f7.same W9
  have st12 := ldcAgain X9 hx hZ2 hown2 (own_k hw 19 rfl) hL2 (g := (mkF m 18 #[.val (.ref a1), .val (.ref a2), .val (.int (0 : Int32)), .val (.int (0 : Int32)), .val .null, .unset] [(.ref a1)])) rfl (hb hby d3_18)
  have f13 : Fld Z h9 aa2 "java/lang/String" "coder" "B" (.int (0 : Int32)) := (pC2.other W9 (Or.inl (Ne.symm (hne2 _ f5).1)))
  obtain ⟨T14, X14, e14, st14⟩ := getF X9 hx hZ2 hown2 (host := "") (Or.inl (own_k hw 26 rfl)) Via.refl e9 f13 (g := (mkF m 20 #[.val (.ref a1), .val (.ref a2), .val (.int (0 : Int32)), .val (.int (0 : Int32)), .val .null, .unset] [(.ref aa2), (.ref a1)])) rfl rfl (hb hby d3_20)
  have f15 : Fld Z h9 a1 "java/lang/String" "coder" "B" (.int (0 : Int32)) := ((hF2.ext E2).other W9 (Or.inr (slot_ne (Or.inr (own_k hw 22 rfl)) (Or.inr (own_k hw 21 rfl)) (by decide) (t := .byte) (t' := (.array .byte)) (by decide) (by decide))))
  have f16 : Exa Z h9 a1 "java/lang/String" := (f8.wr W9)
  have f17 : Safe Z own_EL T2.vm h9 a1 := (Safe.wr W9 f5 R4.1 f5)
  obtain ⟨T18, h18, X18, e18, W18, st18⟩ := putFN X14 hx hZ2 hown2 (own_k hw 26 rfl) Via.refl e14 f15 f16 (Or.inr ⟨(own_k hw 22 rfl), rfl, hnm⟩) (own_k hw 6 rfl) (ty := .byte) (v' := (.int (0 : Int32))) (by decide) rfl rfl (g := (mkF m 23 #[.val (.ref a1), .val (.ref a2), .val (.int (0 : Int32)), .val (.int (0 : Int32)), .val .null, .unset] [(.int (0 : Int32)), (.ref a1)])) rfl rfl (hb hby d3_23)
  have R19 : CHr Z own_EL s.vm h0 T2.vm h18 := R10.trans (CHr.wr W18 f17 R10.1)
  have N18 := Fr.snoc X18 N9 hG1
  have K20 : Keep h0 h18 [a1] := K11.wr W18 (Or.inl (List.mem_of_getElem? (i := 0) rfl))
  have Fw18 : Fld Z h18 a1 "java/lang/String" "coder" "B" (.int (0 : Int32)) := f15.same W18
  have f21 : Exa Z h18 a1 "java/lang/String" := (f16.wr W18)
  have f22 : Fld Z h18 a1 "java/lang/String" "value" "[B" (.ref b2) := (Fw9.other W18 (Or.inr (slot_ne (Or.inr (own_k hw 21 rfl)) (Or.inr (own_k hw 22 rfl)) (by decide) (t := (.array .byte)) (t' := .byte) (by decide) (by decide))))
  have f23 : Arv Z h18 b2 c2 .byte (0 : Int32) [] (.int (0 : Int32)) := ((pA2.other W9 (Ne.symm (hne2 _ f5).2)).other W18 (Ne.symm (hne2 _ f5).2))
  have hRe := R19.trans (CHv.at X18 hZ2 hEL R19.1)
  rw [← e18] at hRe
  rw [← hh] at hRe
  have f24 : k2 ≤ h18.size := (Nat.le_trans (Nat.le_trans hk2 (Keep.of_wr W9).1) (Keep.of_wr W18).1)
  obtain ⟨fs, hr, hrun, hended, hend⟩ := X18.leaveW hS2 (by rw [e18]; exact f24) (v := none) (fun _ => rfl)
  refine ⟨_, _, pre0 _ ?_, hrun, hended, _, _, rfl, ?_, hRe, hend.1, hend.2.1, hend.2.2.1, hend.2.2.2.mono (by decide) (by decide)⟩
  · show Steps p.tables e below (s₁.setTop (mkF m 0 #[.val (.ref a1), .val (.ref a2), .val (.int (0 : Int32)), .val (.int (0 : Int32)), .val .null, .unset] [])) _
    refine XS.aloadN X0.here hx rfl (hb hby d3_0) rfl rfl ?_
    show Steps p.tables e below (s₁.setTop (mkF m 1 #[.val (.ref a1), .val (.ref a2), .val (.int (0 : Int32)), .val (.int (0 : Int32)), .val .null, .unset] [(.ref a1)])) _
    refine st1 _ ?_
    show Steps p.tables e below (T1.setTop (mkF m 4 #[.val (.ref a1), .val (.ref a2), .val (.int (0 : Int32)), .val (.int (0 : Int32)), .val .null, .unset] [])) _
    refine XS.iloadN X1.here hx rfl (hb hby d3_4) rfl ?_
    show Steps p.tables e below (T1.setTop (mkF m 5 #[.val (.ref a1), .val (.ref a2), .val (.int (0 : Int32)), .val (.int (0 : Int32)), .val .null, .unset] [(.int (0 : Int32))])) _
    refine XS.ifNo X1.here hx rfl (hb hby d3_5) rfl (by decide) ?_
    show Steps p.tables e below (T1.setTop (mkF m 8 #[.val (.ref a1), .val (.ref a2), .val (.int (0 : Int32)), .val (.int (0 : Int32)), .val .null, .unset] [])) _
    refine XS.aloadN X1.here hx rfl (hb hby d3_8) rfl rfl ?_
    show Steps p.tables e below (T1.setTop (mkF m 9 #[.val (.ref a1), .val (.ref a2), .val (.int (0 : Int32)), .val (.int (0 : Int32)), .val .null, .unset] [(.ref a1)])) _
    refine st2 _ ?_
    show Steps p.tables e below (T2.setTop (mkF m 11 #[.val (.ref a1), .val (.ref a2), .val (.int (0 : Int32)), .val (.int (0 : Int32)), .val .null, .unset] [(.ref aa2), (.ref a1)])) _
    refine st6 _ ?_
    show Steps p.tables e below (T6.setTop (mkF m 14 #[.val (.ref a1), .val (.ref a2), .val (.int (0 : Int32)), .val (.int (0 : Int32)), .val .null, .unset] [(.ref b2), (.ref a1)])) _
    refine st9 _ ?_
    show Steps p.tables e below (T9.setTop (mkF m 17 #[.val (.ref a1), .val (.ref a2), .val (.int (0 : Int32)), .val (.int (0 : Int32)), .val .null, .unset] [])) _
    refine XS.aloadN X9.here hx rfl (hb hby d3_17) rfl rfl ?_
    show Steps p.tables e below (T9.setTop (mkF m 18 #[.val (.ref a1), .val (.ref a2), .val (.int (0 : Int32)), .val (.int (0 : Int32)), .val .null, .unset] [(.ref a1)])) _
    refine st12 _ ?_
    show Steps p.tables e below (T9.setTop (mkF m 20 #[.val (.ref a1), .val (.ref a2), .val (.int (0 : Int32)), .val (.int (0 : Int32)), .val .null, .unset] [(.ref aa2), (.ref a1)])) _
    refine st14 _ ?_
    show Steps p.tables e below (T14.setTop (mkF m 23 #[.val (.ref a1), .val (.ref a2), .val (.int (0 : Int32)), .val (.int (0 : Int32)), .val .null, .unset] [(.int (0 : Int32)), (.ref a1)])) _
    refine st18 _ ?_
    show Steps p.tables e below (T18.setTop (mkF m 26 #[.val (.ref a1), .val (.ref a2), .val (.int (0 : Int32)), .val (.int (0 : Int32)), .val .null, .unset] [])) _
    exact X18.returnOut hx Bd.returns (hb hby d3_26) hr
  · show Qs4 Z a1 a2 h0 n0 _ T18.heap _
    rw [e18]
    exact ⟨b2, c2, N18, K20, f21, Fw18, f22, f23, rfl⟩
theorem d2_0 : decode jdk_42_method_3_code 0 = .ok (.aload_n 0, 1) := by decide +kernel
theorem d2_1 : decode jdk_42_method_3_code 1 = .ok (.aload_n 1, 1) := by decide +kernel
theorem d2_2 : decode jdk_42_method_3_code 2 = .ok (.iconst 0, 1) := by decide +kernel
theorem d2_3 : decode jdk_42_method_3_code 3 = .ok (.aload_n 1, 1) := by decide +kernel
theorem d2_4 : decode jdk_42_method_3_code 4 = .ok (.arraylength, 1) := by decide +kernel
theorem d2_5 : decode jdk_42_method_3_code 5 = .ok (.aconst_null, 1) := by decide +kernel
theorem d2_6 : decode jdk_42_method_3_code 6 = .ok (.invokespecial 27, 3) := by decide +kernel
theorem own_pd_0 : parseMethodDescriptor "([CIILjava/lang/Void;)V" = some ⟨[(.array .char), .int, .int, (.object "java/lang/Void")], none⟩ := by decide +kernel
theorem d2_9 : decode jdk_42_method_3_code 9 = .ok (.return_, 1) := by decide +kernel
theorem ef_s1 (m : MethodId) (a1 : Addr) (a2 : Addr) : entryFrame m #[(.ref a1), (.ref a2)] 2 = mkF m 0 #[.val (.ref a1), .val (.ref a2)] [] := by first | (simp [entryFrame, mkF, argsToLocals, Value.category]; done) | rfl
def Qs1 (Z : State) (a1 : Addr) (a2 : Addr) (k2 : ClassId) (dv : Value) (h0 : Heap) (n0 : Nat) (v : Option Value) (h : Heap) (L : List Loc) : Prop := ∃ (tt : Addr) (kk : ClassId), Fr n0 L ∧ Keep h0 h [a1] ∧ Exa Z h a1 "java/lang/String" ∧ Fld Z h a1 "java/lang/String" "coder" "B" (.int (0 : Int32)) ∧ Fld Z h a1 "java/lang/String" "value" "[B" (.ref tt) ∧ Arv Z h tt kk .byte (0 : Int32) [] (.int (0 : Int32)) ∧ (v = none)
set_option maxRecDepth 65536 in
set_option maxHeartbeats 40000000 in
theorem rmS1 (l : Launch) (Z : State) (a0 : Array Value) (hw : ∀ d ∈ tables_1, d.before a0 Z = true) (ws : List Jvm.Cond) (a1 : Addr) (a2 : Addr) (k2 : ClassId) (dv : Value) (h0 : Heap) (n0 : Nat) (Z0 : n0 ≤ h0.size) (hE : Exa Z h0 a1 "java/lang/String") (hF1 : Fld Z h0 a1 "java/lang/String" "value" "[B" .null) (hF2 : Fld Z h0 a1 "java/lang/String" "coder" "B" (.int (0 : Int32))) (hG1 : n0 ≤ a1) (hV : Arv Z h0 a2 k2 .char (0 : Int32) [] dv) :
    MetFree l (⟨"java/lang/String", "<init>", "([C)V"⟩ : MethodName) (head1 (Jvm.Cond.code (⟨"java/lang/String", "<init>", "([C)V"⟩ : MethodName) jdk_42_method_3_code 2 none :: ws) ({ frames := 2, cells := 2, slots := 4, locals := 29 } : Room)) (fun a U => a = #[(.ref a1), (.ref a2)] ∧ Z.Warmed39 U.vm ∧ U.heap = h0 ∧ CHv Z own_EL U.vm h0 ∧ ∀ x ∈ ([a1] : List Addr), Safe Z own_EL U.vm h0 x) (fun _ _ _ _ _ => True) (fun _ U o U' => ∃ v L, o = .returned v ∧ Qs1 Z a1 a2 k2 dv h0 n0 v U'.heap L ∧ CHr Z own_EL U.vm U.heap U'.vm U'.heap ∧ ReturnedEndW U o U' L ({ frames := 2, cells := 2, slots := 4, locals := 29 } : Room).cells ({ frames := 2, cells := 2, slots := 4, locals := 29 } : Room).slots) := by
  refine MetFree.of_bodySF (plainFor_of_name own_pn_0) hisR ?_
  intro p e s m args below meth c s₁ Bd hml0 hP hK
  obtain ⟨rfl, hZ, hh, hCH, hQs⟩ := hP
  have hx := Bd.exec
  have hby := Bd.bytes
  have hml : c.maxLocals = 2 := hml0
  have hown : s.vm.findClass "java/lang/String" = some m.cls := findClass_of_methodNamed Bd.named
  have hnm := (name_of_methodNamed Bd.named Bd.method).1
  have X0 : Stand p l e ({ frames := 2, cells := 2, slots := 4, locals := 29 } : Room) (s.setVm s.vm) m #[(.ref a1), (.ref a2)] below meth c s₁ [] 0 0 := Stand.of_body Bd
  have e0 : s₁.heap = h0 := by rw [← hh, Bd.state]; rfl
  have N0 := Fr.nil n0
  have pre0 : ∀ t, Steps p.tables e below (s₁.setTop (mkF m 0 #[.val (.ref a1), .val (.ref a2)] [])) t → Steps p.tables e below (s₁.setTop (entryFrame m #[(.ref a1), (.ref a2)] 2)) t := fun t k => castTop (ef_s1 m a1 a2) k
  have hZ0 := hZ
  have hown0 := hown
  have hEL : EW Z a0 own_EL := (EW.cons (own_k hw 19 rfl) (by decide) EW.nil)
  have hwS : ∀ a ∈ Bundle.stringAtoms, a.before a0 Z = true := fun d hd => hw d ((by decide +kernel : ∀ d ∈ Bundle.stringAtoms, d ∈ tables_1) d hd)
  have hS0 : s.Since s.vm h0.size := (State.WarmedH.refl s).since _
  have Y0 : h0.size ≤ h0.size := Nat.le_refl _
  have R0 : CHr Z own_EL s.vm h0 s.vm h0 := CHr.refl hCH
  have q_a1 := hQs a1 (List.mem_of_getElem? (i := 0) rfl)
  obtain ⟨cl1, Ar1, -, S1, M1, -, -⟩ := id hV
  obtain ⟨_, _, ⟨T2, L2, k2, n2⟩, -, X2, hSq2, hgq2, ⟨Lc2, hQ2, l2, y2, z2, hR2⟩, st2⟩ := X0.specialBackS hx (y := (⟨"java/lang/String", "<init>", "([CIILjava/lang/Void;)V"⟩ : MethodName)) rfl hown0 (mvT hZ0 (own_k hw 12 rfl)) (mvT hZ0 (own_k hw 13 rfl)) (mvT hZ0 (own_k hw 15 rfl)) (by decide) (own_backSQ (W := 0) (rmS4 l Z a0 hw [] a1 a2 h0 n0 Z0 hE hF1 hF2 hG1) hZ0 (own_k hw 15 rfl) (own_k hw 7 rfl) (by decide) (by decide) hEL R0.1 (sfS q_a1 sf0) (allS hE.lt all0)) (g := (mkF m 6 #[.val (.ref a1), .val (.ref a2)] [.null, (.int (0 : Int32)), (.int (0 : Int32)), (.ref a2), (.ref a1)])) rfl (by rw [hml]; rfl) (Steps.refl _) (a := a1) (argsL := [(.ref a2), (.int (0 : Int32)), (.int (0 : Int32)), .null]) (rest := []) (lenOf own_pd_0 rfl) rfl (by show 2 * 0 + _ ≤ _; exact Nat.le_of_eq rfl) (hb hby d2_6) (fun _ _ => ⟨rfl, e0, (by decide : 0 + 2 ≤ _), (by decide : 0 + 4 ≤ _)⟩)
  dsimp only [Pt.U, Pt.locs, Pt.cells, Pt.slots] at X2 l2 y2 z2 st2 hQ2 hSq2 hgq2 hR2
  subst l2 y2 z2
  obtain ⟨Xr2, hS2, hZ2, hown2⟩ := rebS hS0 (k0 := h0.size) (by rw [e0]; exact Y0) X2 hSq2 hgq2 hZ0 hown0
  obtain ⟨tt_2, kk_2, Nq2, Kq2, p2_0, p2_1, p2_2, p2_3, hv2⟩ := hQ2
  have N2 := Fr.app N0 Nq2
  have R3 : CHr Z own_EL s.vm h0 T2.vm T2.heap := R0.trans (hR2)
  have Y2 : T2.heap.size ≤ T2.heap.size := Nat.le_refl _
  have K4 : Keep h0 T2.heap [a1] := (Keep.refl h0 [a1]).trans Kq2 (allS (Or.inl (List.mem_of_getElem? (i := 0) rfl)) all0)
  subst hv2
  have hRe := R3.trans (CHv.at Xr2 hZ2 hEL R3.1)
  rw [← hh] at hRe
  obtain ⟨fs, hr, hrun, hended, hend⟩ := Xr2.leaveW hS2 Y2 (v := none) (fun _ => rfl)
  refine ⟨_, _, pre0 _ ?_, hrun, hended, _, _, rfl, ?_, hRe, hend.1, hend.2.1, hend.2.2.1, hend.2.2.2.mono (by decide) (by decide)⟩
  · show Steps p.tables e below (s₁.setTop (mkF m 0 #[.val (.ref a1), .val (.ref a2)] [])) _
    refine XS.aloadN X0.here hx rfl (hb hby d2_0) rfl rfl ?_
    show Steps p.tables e below (s₁.setTop (mkF m 1 #[.val (.ref a1), .val (.ref a2)] [(.ref a1)])) _
    refine XS.aloadN X0.here hx rfl (hb hby d2_1) rfl rfl ?_
    show Steps p.tables e below (s₁.setTop (mkF m 2 #[.val (.ref a1), .val (.ref a2)] [(.ref a2), (.ref a1)])) _
    refine XS.iconst X0.here hx rfl (hb hby d2_2) ?_
    show Steps p.tables e below (s₁.setTop (mkF m 3 #[.val (.ref a1), .val (.ref a2)] [(.int (0 : Int32)), (.ref a2), (.ref a1)])) _
    refine XS.aloadN X0.here hx rfl (hb hby d2_3) rfl rfl ?_
    show Steps p.tables e below (s₁.setTop (mkF m 4 #[.val (.ref a1), .val (.ref a2)] [(.ref a2), (.int (0 : Int32)), (.ref a2), (.ref a1)])) _
    refine X0.arraylength hx (by rw [e0]; exact Ar1.1) (State.isArrayOf_alike hZ0.alike Ar1.2.1) (g := (mkF m 4 #[.val (.ref a1), .val (.ref a2)] [(.ref a2), (.int (0 : Int32)), (.ref a2), (.ref a1)])) rfl rfl (hb hby d2_4) _ ?_
    rw [len_of S1 M1]
    show Steps p.tables e below (s₁.setTop (mkF m 5 #[.val (.ref a1), .val (.ref a2)] [(.int (0 : Int32)), (.int (0 : Int32)), (.ref a2), (.ref a1)])) _
    refine XS.aconstNull X0.here hx rfl (hb hby d2_5) ?_
    show Steps p.tables e below (s₁.setTop (mkF m 6 #[.val (.ref a1), .val (.ref a2)] [.null, (.int (0 : Int32)), (.int (0 : Int32)), (.ref a2), (.ref a1)])) _
    refine st2.trans ?_
    show Steps p.tables e below (T2.setTop (mkF m 9 #[.val (.ref a1), .val (.ref a2)] [])) _
    exact Xr2.returnOut hx Bd.returns (hb hby d2_9) hr
  · show Qs1 Z a1 a2 k2 dv h0 n0 _ T2.heap _
    exact ⟨tt_2, kk_2, N2, K4, p2_0, p2_1, p2_2, p2_3, rfl⟩
theorem own_notK {Z : State} {a0 : Array Value} {C S K : String} {n : Nat} (w : (Jvm.Cond.superclass C S).before a0 Z = true) (w0 : (Jvm.Cond.noSuperclass S).before a0 Z = true) (wi : (Jvm.Cond.instantiable K n).before a0 Z = true) (h1 : C ≠ K) (h2 : S ≠ K) : ∃ c t, Z.vm.findClass C = some c ∧ Z.vm.findClass K = some t ∧ Z.vm.assignable c t = false := by
  obtain ⟨c, f0⟩ := found_sup w
  obtain ⟨p, k, kp, f1, f2, f3, f4, f5, -, -⟩ := Cond.superclass_spec f0 w
  obtain ⟨p', k', e1, e2, e3, -, -⟩ := Cond.noSuperclass_spec w0
  cases f1.symm.trans e1
  obtain ⟨t, kt, g1, g2, g3, g4, -⟩ := Cond.instantiable_spec wi
  have n1 := ids_ne f0 g1 h1
  have n2 := ids_ne e1 g1 h2
  have sub : ∀ fuel, Z.vm.isSubclassAux fuel c t = false := by
    intro fuel
    cases fuel with
    | zero => rfl
    | succ f =>
      simp only [Vm.isSubclassAux, f2, f4]
      cases f with
      | zero => simp [Vm.isSubclassAux, n1]
      | succ f' => simp [Vm.isSubclassAux, n1, n2, e2, e3]
  have g5 : kt.isInterface = false := (Bool.or_eq_false_iff.mp g4).1
  refine ⟨c, t, f0, g1, ?_⟩
  show Z.vm.assignableAux (255 + 1) c t = false
  simp [Vm.assignableAux, n1, f2, g2, f5, g3, g4, g5, Vm.isSubclass, sub]
theorem own_max (x : Int64) : ¬ ((lcmpW (x &&& (9223372036854775807 : Int64)) (0 : Int64)) < (0 : Int32)) := by
  have h := c_maskL x (9223372036854775807 : Int64) 63 (by decide) (by decide)
  have m := Int.emod_nonneg x.toInt (show ((2 ^ 63 : Nat) : Int) ≠ 0 by decide)
  rw [lw_lt, Int64.lt_iff_toInt_lt, h]
  have e0 : (0 : Int64).toInt = 0 := rfl
  omega
theorem own_head {n m x0 x1 y0 y1 : Int32} (hn : own_N n) (hm : own_N m) : own_cs n x0 x1 = own_cs m y0 y1 ↔ n = m ∧ (n < 1 ∨ x0 = y0) ∧ (n < 2 ∨ x1 = y1) := by
  rcases hn with rfl | rfl | rfl <;> rcases hm with rfl | rfl | rfl <;> simp [own_cs] <;> decide
theorem own_pn_1 : plainName "com/example/multilingual_query_search/multilingualquerysearch/translation/DictdIndexEntryEqualsPinLaw" = true := by first | (simp [plainName, overriddenIn]; done) | decide +kernel
theorem d1_0 : decode method_2_code 0 = .ok (.iload_n 0, 1) := by decide +kernel
theorem d1_1 : decode method_2_code 1 = .ok (.ifCond .ne 14, 3) := by decide +kernel
theorem d1_4 : decode method_2_code 4 = .ok (.new 7, 3) := by decide +kernel
theorem d1_7 : decode method_2_code 7 = .ok (.dup, 1) := by decide +kernel
theorem d1_8 : decode method_2_code 8 = .ok (.iconst 0, 1) := by decide +kernel
theorem d1_9 : decode method_2_code 9 = .ok (.newarray .char, 2) := by decide +kernel
theorem d1_11 : decode method_2_code 11 = .ok (.invokespecial 9, 3) := by decide +kernel
theorem own_pd_1 : parseMethodDescriptor "([C)V" = some ⟨[(.array .char)], none⟩ := by decide +kernel
theorem d1_14 : decode method_2_code 14 = .ok (.areturn, 1) := by decide +kernel
theorem d1_15 : decode method_2_code 15 = .ok (.iload_n 0, 1) := by decide +kernel
theorem d1_16 : decode method_2_code 16 = .ok (.iconst 1, 1) := by decide +kernel
theorem d1_17 : decode method_2_code 17 = .ok (.if_icmp .ne 18, 3) := by decide +kernel
theorem d1_20 : decode method_2_code 20 = .ok (.new 7, 3) := by decide +kernel
theorem d1_23 : decode method_2_code 23 = .ok (.dup, 1) := by decide +kernel
theorem d1_24 : decode method_2_code 24 = .ok (.iconst 1, 1) := by decide +kernel
theorem d1_25 : decode method_2_code 25 = .ok (.newarray .char, 2) := by decide +kernel
theorem d1_27 : decode method_2_code 27 = .ok (.dup, 1) := by decide +kernel
theorem d1_28 : decode method_2_code 28 = .ok (.iconst 0, 1) := by decide +kernel
theorem d1_29 : decode method_2_code 29 = .ok (.iload_n 1, 1) := by decide +kernel
theorem d1_30 : decode method_2_code 30 = .ok (.castore, 1) := by decide +kernel
theorem d1_31 : decode method_2_code 31 = .ok (.invokespecial 9, 3) := by decide +kernel
theorem d1_34 : decode method_2_code 34 = .ok (.areturn, 1) := by decide +kernel
theorem d1_35 : decode method_2_code 35 = .ok (.new 7, 3) := by decide +kernel
theorem d1_38 : decode method_2_code 38 = .ok (.dup, 1) := by decide +kernel
theorem d1_39 : decode method_2_code 39 = .ok (.iconst 2, 1) := by decide +kernel
theorem d1_40 : decode method_2_code 40 = .ok (.newarray .char, 2) := by decide +kernel
theorem d1_42 : decode method_2_code 42 = .ok (.dup, 1) := by decide +kernel
theorem d1_43 : decode method_2_code 43 = .ok (.iconst 0, 1) := by decide +kernel
theorem d1_44 : decode method_2_code 44 = .ok (.iload_n 1, 1) := by decide +kernel
theorem d1_45 : decode method_2_code 45 = .ok (.castore, 1) := by decide +kernel
theorem d1_46 : decode method_2_code 46 = .ok (.dup, 1) := by decide +kernel
theorem d1_47 : decode method_2_code 47 = .ok (.iconst 1, 1) := by decide +kernel
theorem d1_48 : decode method_2_code 48 = .ok (.iload_n 2, 1) := by decide +kernel
theorem d1_49 : decode method_2_code 49 = .ok (.castore, 1) := by decide +kernel
theorem d1_50 : decode method_2_code 50 = .ok (.invokespecial 9, 3) := by decide +kernel
theorem d1_53 : decode method_2_code 53 = .ok (.areturn, 1) := by decide +kernel
theorem ef_str (m : MethodId) (q0 : Int32) (q1 : Int32) (q2 : Int32) : entryFrame m #[(.int q0), (.int q1), (.int q2)] 3 = mkF m 0 #[.val (.int q0), .val (.int q1), .val (.int q2)] [] := by first | (simp [entryFrame, mkF, argsToLocals, Value.category]; done) | rfl
def Qstr (Z : State) (q0 : Int32) (q1 : Int32) (q2 : Int32) (G1 : Int32) (h0 : Heap) (n0 : Nat) (v : Option Value) (h : Heap) (L : List Loc) : Prop := ∃ (bb : Addr) (tt : Addr) (kk : ClassId), Fr n0 L ∧ Keep h0 h [] ∧ h0.size ≤ bb ∧ Exa Z h bb "java/lang/String" ∧ Fld Z h bb "java/lang/String" "coder" "B" (.int (0 : Int32)) ∧ Fld Z h bb "java/lang/String" "value" "[B" (.ref tt) ∧ Arv Z h tt kk .byte (Int32.ofNat (own_cs q0 q1 q2).length) (((own_cs q0 q1 q2).map (fun c => c.toInt8.toInt32)).map Value.int) (.int (0 : Int32)) ∧ True ∧ (v = some (.ref bb))
set_option maxRecDepth 65536 in
set_option maxHeartbeats 40000000 in
theorem rmStr (l : Launch) (Z : State) (a0 : Array Value) (hw : ∀ d ∈ tables_1, d.before a0 Z = true) (ws : List Jvm.Cond) (q0 : Int32) (q1 : Int32) (q2 : Int32) (G1 : Int32) (h0 : Heap) (n0 : Nat) (Z0 : n0 ≤ h0.size) (hS : Sta Z Z.heap "java/lang/String" "COMPACT_STRINGS" "Z" (.int G1)) (hG : ¬ (G1 = (0 : Int32))) (hO : Old Z n0 h0) (hc1 : own_C q1) (hc2 : own_C q2) :
    MetFree l (⟨"com/example/multilingual_query_search/multilingualquerysearch/translation/DictdIndexEntryEqualsPinLaw", "str", "(ICC)Ljava/lang/String;"⟩ : MethodName) (head1 (Jvm.Cond.code (⟨"com/example/multilingual_query_search/multilingualquerysearch/translation/DictdIndexEntryEqualsPinLaw", "str", "(ICC)Ljava/lang/String;"⟩ : MethodName) method_2_code 3 (some (.object "java/lang/String")) :: ws) ({ frames := 4, cells := 4, slots := 8, locals := 66 } : Room)) (fun a U => a = #[(.int q0), (.int q1), (.int q2)] ∧ Z.Warmed39 U.vm ∧ U.heap = h0 ∧ CHv Z own_EL U.vm h0 ∧ ∀ x ∈ ([] : List Addr), Safe Z own_EL U.vm h0 x) (fun _ _ _ _ _ => True) (fun _ U o U' => ∃ v L, o = .returned v ∧ Qstr Z q0 q1 q2 G1 h0 n0 v U'.heap L ∧ CHr Z own_EL U.vm U.heap U'.vm U'.heap ∧ ReturnedEndW U o U' L ({ frames := 4, cells := 4, slots := 8, locals := 66 } : Room).cells ({ frames := 4, cells := 4, slots := 8, locals := 66 } : Room).slots) := by
  refine MetFree.of_bodySF (plainFor_of_name own_pn_1) hisR ?_
  intro p e s m args below meth c s₁ Bd hml0 hP hK
  obtain ⟨rfl, hZ, hh, hCH, hQs⟩ := hP
  have hx := Bd.exec
  have hby := Bd.bytes
  have hml : c.maxLocals = 3 := hml0
  have hown : s.vm.findClass "com/example/multilingual_query_search/multilingualquerysearch/translation/DictdIndexEntryEqualsPinLaw" = some m.cls := findClass_of_methodNamed Bd.named
  have hnm := (name_of_methodNamed Bd.named Bd.method).1
  have X0 : Stand p l e ({ frames := 4, cells := 4, slots := 8, locals := 66 } : Room) (s.setVm s.vm) m #[(.int q0), (.int q1), (.int q2)] below meth c s₁ [] 0 0 := Stand.of_body Bd
  have e0 : s₁.heap = h0 := by rw [← hh, Bd.state]; rfl
  have N0 := Fr.nil n0
  have pre0 : ∀ t, Steps p.tables e below (s₁.setTop (mkF m 0 #[.val (.int q0), .val (.int q1), .val (.int q2)] [])) t → Steps p.tables e below (s₁.setTop (entryFrame m #[(.int q0), (.int q1), (.int q2)] 3)) t := fun t k => castTop (ef_str m q0 q1 q2) k
  have hZ0 := hZ
  have hown0 := hown
  have hEL : EW Z a0 own_EL := (EW.cons (own_k hw 19 rfl) (by decide) EW.nil)
  have hwS : ∀ a ∈ Bundle.stringAtoms, a.before a0 Z = true := fun d hd => hw d ((by decide +kernel : ∀ d ∈ Bundle.stringAtoms, d ∈ tables_1) d hd)
  have hS0 : s.Since s.vm h0.size := (State.WarmedH.refl s).since _
  have Y0 : h0.size ≤ h0.size := Nat.le_refl _
  have R0 : CHr Z own_EL s.vm h0 s.vm h0 := CHr.refl hCH
  have pre1 : ∀ t, Steps p.tables e below (s₁.setTop (mkF m 1 #[.val (.int q0), .val (.int q1), .val (.int q2)] [(.int q0)])) t → Steps p.tables e below (s₁.setTop (entryFrame m #[(.int q0), (.int q1), (.int q2)] 3)) t := fun t kt => pre0 t (by
    show Steps p.tables e below (s₁.setTop (mkF m 0 #[.val (.int q0), .val (.int q1), .val (.int q2)] [])) _
    refine XS.iloadN X0.here hx rfl (hb hby d1_0) rfl ?_
    exact kt)
  by_cases hcx2 : q0 = (0 : Int32)
  · skip
    obtain ⟨T3, h3, X3, e3, E3, A3, D3, -, st3⟩ := newO X0 hx hZ0 hown0 (own_k hw 5 rfl) (own_k hw 6 rfl) (own_k hw 7 rfl) e0 (g := (mkF m 4 #[.val (.int q0), .val (.int q1), .val (.int q2)] [])) rfl (hb hby d1_4) (by decide) (by decide)
    obtain ⟨b3, g3⟩ : ∃ z, z = h0.size := ⟨_, rfl⟩
    rw [← g3] at A3 D3 st3
    have g_b3 : n0 ≤ b3 := Nat.le_trans Z0 (Nat.le_of_eq g3.symm)
    have q_b3 : Safe Z own_EL s.vm h0 b3 := Safe.new (Nat.le_of_eq g3.symm)
    have sz_b3 : h0.size ≤ b3 := Nat.le_trans (Keep.refl h0 []).1 (Nat.le_of_eq g3.symm)
    have K4 : Keep h0 h3 [] := (Keep.refl h0 []).ext E3
    have R5 : CHr Z own_EL s.vm h0 s.vm h3 := R0.trans (CHr.ext E3 R0.1)
    have F3_value : Fld Z h3 b3 "java/lang/String" "value" "[B" .null := D3 (Or.inr (own_k hw 21 rfl)) (ty := (.array .byte)) (by decide)
    have F3_coder : Fld Z h3 b3 "java/lang/String" "coder" "B" (.int (0 : Int32)) := D3 (Or.inr (own_k hw 22 rfl)) (ty := .byte) (by decide)
    obtain ⟨T6, h6, k6, X6, e6, E6, A6, st6⟩ := newP X3 hx hZ0 (own_k hw 8 rfl) e3 (g := (mkF m 9 #[.val (.int q0), .val (.int q1), .val (.int q2)] [(.int (0 : Int32)), (.ref b3), (.ref b3)])) rfl (hb hby d1_9) rfl (by decide) (cap := 0) (by decide) (by decide) (by decide) (by decide)
    obtain ⟨b6, g6⟩ : ∃ z, z = h3.size := ⟨_, rfl⟩
    rw [← g6] at A6 st6
    have f7 : n0 ≤ h3.size := (Nat.le_trans Z0 E3.1)
    have g_b6 : n0 ≤ b6 := Nat.le_trans f7 (Nat.le_of_eq g6.symm)
    have q_b6 : Safe Z own_EL s.vm h3 b6 := Safe.new (Nat.le_of_eq g6.symm)
    have sz_b6 : h0.size ≤ b6 := Nat.le_trans K4.1 (Nat.le_of_eq g6.symm)
    have K8 : Keep h0 h6 [] := K4.ext E6
    have R9 : CHr Z own_EL s.vm h0 s.vm h6 := R5.trans (CHr.ext E6 R5.1)
    have V6 : Arv Z h6 b6 k6 .char (0 : Int32) [] (.int (0 : Int32)) := Arv.new A6 (by decide)
    have f11 : Exa Z h6 b3 "java/lang/String" := (A3.ext E6)
    have f12 : Fld Z h6 b3 "java/lang/String" "value" "[B" .null := (F3_value.ext E6)
    have f13 : Fld Z h6 b3 "java/lang/String" "coder" "B" (.int (0 : Int32)) := (F3_coder.ext E6)
    have f14 : Safe Z own_EL s.vm h6 b3 := (Safe.ext E6 R5.1 (Safe.ext E3 R0.1 q_b3))
    have f15 : n0 ≤ h6.size := (Nat.le_trans f7 E6.1)
    obtain ⟨_, _, ⟨T10, L10, k10, n10⟩, -, X10, hSq10, hgq10, ⟨Lc10, hQ10, l10, y10, z10, hR10⟩, st10⟩ := X6.specialBackS hx (y := (⟨"java/lang/String", "<init>", "([C)V"⟩ : MethodName)) rfl hown0 (mvT hZ0 (own_k hw 9 rfl)) (mvT hZ0 (own_k hw 10 rfl)) (mvT hZ0 (own_k hw 11 rfl)) (by decide) (own_backSQ (W := 1) (rmS1 l Z a0 hw [] b3 b6 k6 (.int (0 : Int32)) h6 n0 f15 f11 f12 f13 g_b3 V6) hZ0 (own_k hw 11 rfl) (own_k hw 7 rfl) (by decide) (by decide) hEL R9.1 (sfS f14 sf0) (allS f11.lt all0)) (g := (mkF m 11 #[.val (.int q0), .val (.int q1), .val (.int q2)] [(.ref b6), (.ref b3), (.ref b3)])) rfl (by rw [hml]; rfl) (Steps.refl _) (a := b3) (argsL := [(.ref b6)]) (rest := [(.ref b3)]) (lenOf own_pd_1 rfl) rfl (by show 2 * 0 + _ ≤ _; exact Nat.le_of_eq rfl) (hb hby d1_11) (fun _ _ => ⟨rfl, e6, (by decide : 2 + 2 ≤ _), (by decide : 4 + 4 ≤ _)⟩)
    dsimp only [Pt.U, Pt.locs, Pt.cells, Pt.slots] at X10 l10 y10 z10 st10 hQ10 hSq10 hgq10 hR10
    subst l10 y10 z10
    have f16 : h0.size ≤ h6.size := (Nat.le_trans (Nat.le_trans Y0 E3.1) E6.1)
    obtain ⟨Xr10, hS10, hZ10, hown10⟩ := rebS hS0 (k0 := h0.size) (by rw [e6]; exact f16) X10 hSq10 hgq10 hZ0 hown0
    obtain ⟨tt_10, kk_10, Nq10, Kq10, p10_0, p10_1, p10_2, p10_3, hv10⟩ := hQ10
    have N10 := Fr.app N0 Nq10
    have R17 : CHr Z own_EL s.vm h0 T10.vm T10.heap := R9.trans (hR10)
    have Y10 : T10.heap.size ≤ T10.heap.size := Nat.le_refl _
    have K18 : Keep h0 T10.heap [] := K8.trans Kq10 (allS (Or.inr sz_b3) all0)
    subst hv10
    have hcs : own_cs q0 q1 q2 = [] := by unfold own_cs; rw [if_pos hcx2]
    have hRe := R17.trans (CHv.at Xr10 hZ10 hEL R17.1)
    rw [← hh] at hRe
    obtain ⟨fs, hr, hrun, hended, hend⟩ := Xr10.leaveW hS10 Y10 (v := (some (.ref b3))) (fun h => by rw [Bd.returns] at h; cases h)
    refine ⟨_, _, pre1 _ ?_, hrun, hended, _, _, rfl, ?_, hRe, hend.1, hend.2.1, hend.2.2.1, hend.2.2.2.mono (by decide) (by decide)⟩
    · show Steps p.tables e below (s₁.setTop (mkF m 1 #[.val (.int q0), .val (.int q1), .val (.int q2)] [(.int q0)])) _
      refine XS.ifNo X0.here hx rfl (hb hby d1_1) rfl ((if0 _ _).trans (teq hcx2).2) ?_
      show Steps p.tables e below (s₁.setTop (mkF m 4 #[.val (.int q0), .val (.int q1), .val (.int q2)] [])) _
      refine st3 _ ?_
      show Steps p.tables e below (T3.setTop (mkF m 7 #[.val (.int q0), .val (.int q1), .val (.int q2)] [(.ref b3)])) _
      refine XS.dup X3.here hx rfl (hb hby d1_7) rfl rfl ?_
      show Steps p.tables e below (T3.setTop (mkF m 8 #[.val (.int q0), .val (.int q1), .val (.int q2)] [(.ref b3), (.ref b3)])) _
      refine XS.iconst X3.here hx rfl (hb hby d1_8) ?_
      show Steps p.tables e below (T3.setTop (mkF m 9 #[.val (.int q0), .val (.int q1), .val (.int q2)] [(.int (0 : Int32)), (.ref b3), (.ref b3)])) _
      refine st6 _ ?_
      show Steps p.tables e below (T6.setTop (mkF m 11 #[.val (.int q0), .val (.int q1), .val (.int q2)] [(.ref b6), (.ref b3), (.ref b3)])) _
      refine st10.trans ?_
      show Steps p.tables e below (T10.setTop (mkF m 14 #[.val (.int q0), .val (.int q1), .val (.int q2)] [(.ref b3)])) _
      exact retOut Xr10 hx Bd.returns rfl (Or.inr (Or.inr (Or.inr (Or.inr ⟨rfl, rfl, rfl⟩)))) (hb hby d1_14) hr
    · show Qstr Z q0 q1 q2 G1 h0 n0 _ T10.heap _
      exact ⟨b3, tt_10, kk_10, N10, K18, sz_b3, p10_0, p10_1, p10_2, (by rw [hcs]; have q := p10_3; exact q), trivial, rfl⟩
  · skip
    have pre19 : ∀ t, Steps p.tables e below (s₁.setTop (mkF m 17 #[.val (.int q0), .val (.int q1), .val (.int q2)] [(.int (1 : Int32)), (.int q0)])) t → Steps p.tables e below (s₁.setTop (entryFrame m #[(.int q0), (.int q1), (.int q2)] 3)) t := fun t kt => pre1 t (by
      show Steps p.tables e below (s₁.setTop (mkF m 1 #[.val (.int q0), .val (.int q1), .val (.int q2)] [(.int q0)])) _
      refine XS.ifYes X0.here hx rfl (pc0 := 1) (pc' := 15) rfl (hb hby d1_1) rfl ((if0 _ _).trans (feq hcx2).2) (by decide) (by decide) ?_
      show Steps p.tables e below (s₁.setTop (mkF m 15 #[.val (.int q0), .val (.int q1), .val (.int q2)] [])) _
      refine XS.iloadN X0.here hx rfl (hb hby d1_15) rfl ?_
      show Steps p.tables e below (s₁.setTop (mkF m 16 #[.val (.int q0), .val (.int q1), .val (.int q2)] [(.int q0)])) _
      refine XS.iconst X0.here hx rfl (hb hby d1_16) ?_
      exact kt)
    by_cases hcx20 : q0 = (1 : Int32)
    · skip
      obtain ⟨T21, h21, X21, e21, E21, A21, D21, -, st21⟩ := newO X0 hx hZ0 hown0 (own_k hw 5 rfl) (own_k hw 6 rfl) (own_k hw 7 rfl) e0 (g := (mkF m 20 #[.val (.int q0), .val (.int q1), .val (.int q2)] [])) rfl (hb hby d1_20) (by decide) (by decide)
      obtain ⟨b21, g21⟩ : ∃ z, z = h0.size := ⟨_, rfl⟩
      rw [← g21] at A21 D21 st21
      have g_b21 : n0 ≤ b21 := Nat.le_trans Z0 (Nat.le_of_eq g21.symm)
      have q_b21 : Safe Z own_EL s.vm h0 b21 := Safe.new (Nat.le_of_eq g21.symm)
      have sz_b21 : h0.size ≤ b21 := Nat.le_trans (Keep.refl h0 []).1 (Nat.le_of_eq g21.symm)
      have K22 : Keep h0 h21 [] := (Keep.refl h0 []).ext E21
      have R23 : CHr Z own_EL s.vm h0 s.vm h21 := R0.trans (CHr.ext E21 R0.1)
      have F21_value : Fld Z h21 b21 "java/lang/String" "value" "[B" .null := D21 (Or.inr (own_k hw 21 rfl)) (ty := (.array .byte)) (by decide)
      have F21_coder : Fld Z h21 b21 "java/lang/String" "coder" "B" (.int (0 : Int32)) := D21 (Or.inr (own_k hw 22 rfl)) (ty := .byte) (by decide)
      obtain ⟨T24, h24, k24, X24, e24, E24, A24, st24⟩ := newP X21 hx hZ0 (own_k hw 8 rfl) e21 (g := (mkF m 25 #[.val (.int q0), .val (.int q1), .val (.int q2)] [(.int (1 : Int32)), (.ref b21), (.ref b21)])) rfl (hb hby d1_25) rfl (by decide) (cap := 1) (by decide) (by decide) (by decide) (by decide)
      obtain ⟨b24, g24⟩ : ∃ z, z = h21.size := ⟨_, rfl⟩
      rw [← g24] at A24 st24
      have f25 : n0 ≤ h21.size := (Nat.le_trans Z0 E21.1)
      have g_b24 : n0 ≤ b24 := Nat.le_trans f25 (Nat.le_of_eq g24.symm)
      have q_b24 : Safe Z own_EL s.vm h21 b24 := Safe.new (Nat.le_of_eq g24.symm)
      have sz_b24 : h0.size ≤ b24 := Nat.le_trans K22.1 (Nat.le_of_eq g24.symm)
      have K26 : Keep h0 h24 [] := K22.ext E24
      have R27 : CHr Z own_EL s.vm h0 s.vm h24 := R23.trans (CHr.ext E24 R23.1)
      have V24 : Arv Z h24 b24 k24 .char (1 : Int32) [(.int (0 : Int32))] (.int (0 : Int32)) := (Arv.new A24 (by decide)).pad (pad_rep [] (.int (0 : Int32)) 1)
      obtain ⟨cl28, Ar28, q28, S28, M28, H28, G28⟩ := id V24
      have hin28 : ¬ ((0 : Int32) < 0 ∨ cl28.slots.size ≤ ((0 : Int32)).toNatClampNeg) := inb_of S28 ⟨by decide, by decide⟩
      obtain ⟨T28, h28, X28, e28, W28, st28⟩ := stC X24 hx hZ0 e24 Ar28 (j := (0 : Int32)) hin28 (g := (mkF m 30 #[.val (.int q0), .val (.int q1), .val (.int q2)] [(.int q1), (.int (0 : Int32)), (.ref b24), (.ref b24), (.ref b21), (.ref b21)])) rfl rfl (hb hby d1_30)
      have R29 : CHr Z own_EL s.vm h0 s.vm h28 := R27.trans (CHr.wr W28 (Safe.arv hZ0.alike V24 (by decide)) R27.1)
      have N28 := Fr.snoc X28 N0 g_b24
      have K30 : Keep h0 h28 [] := K26.wr W28 (Or.inr sz_b24)
      have V28 : Arv Z h28 b24 k24 .char (1 : Int32) [(.int (nar .char q1))] (.int (0 : Int32)) := Arv.set Ar28 q28 S28 M28 H28 G28 (fits_nar_char _) W28 0 rfl (Nat.le_of_ble_eq_true rfl)
      have hp31 : ∀ c ∈ ([(nar .char q1)] : List Int32), ¬ c < 0 ∧ ¬ (255 : Int32) < c := by
        intro c hc
        simp only [List.mem_cons, List.not_mem_nil, or_false] at hc
        subst hc
        · exact own_narC (by assumption)
      have hws31 : ∀ d ∈ StrChars.Road.words, d.before a0 Z = true := fun d hd => hw d ((by decide +kernel : ∀ d ∈ StrChars.Road.words, d ∈ tables_1) d hd)
      have f32 : n0 ≤ h28.size := (Nat.le_trans (Nat.le_trans f25 E24.1) (Keep.of_wr W28).1)
      have f33 : Exa Z h28 b21 "java/lang/String" := ((A21.ext E24).wr W28)
      have f34 : Fld Z h28 b21 "java/lang/String" "value" "[B" .null := ((F21_value.ext E24).other W28 (Or.inl (Nat.ne_of_lt (Nat.lt_of_lt_of_le A21.lt (Nat.le_of_eq g24.symm)))))
      have f35 : Fld Z h28 b21 "java/lang/String" "coder" "B" (.int (0 : Int32)) := ((F21_coder.ext E24).other W28 (Or.inl (Nat.ne_of_lt (Nat.lt_of_lt_of_le A21.lt (Nat.le_of_eq g24.symm)))))
      have f36 : Old Z n0 h28 := (((hO.ext E21).ext E24).wr W28 g_b24)
      have f37 : Safe Z own_EL s.vm h28 b21 := (Safe.wr W28 (Safe.arv hZ0.alike V24 (by decide)) R27.1 (Safe.ext E24 R23.1 (Safe.ext E21 R0.1 q_b21)))
      obtain ⟨_, _, ⟨T31, L31, k31, n31⟩, -, X31, ⟨Lc31, hQ31, l31, y31, z31⟩, st31⟩ := X28.specialBack hx (y := (⟨"java/lang/String", "<init>", "([C)V"⟩ : MethodName)) rfl hown0 (mvT hZ0 (own_k hw 9 rfl)) (mvT hZ0 (own_k hw 10 rfl)) (mvT hZ0 (own_k hw 11 rfl)) (by decide) (StrChars.Road.backV (W := 1) hZ0 hws31 (kI := 4) (own_k hw 6 rfl) (cs := ([(nar .char q1)] : List Int32)) (bs := (([(nar .char q1)] : List Int32)).map (fun c => c.toInt8.toInt32)) (n := 1) g_b21 f32 f33 f34 f35 V28 (hS.ext f36.2) hG rfl rfl (by decide) (by decide) hp31 rfl (by decide) (by decide)) (g := (mkF m 31 #[.val (.int q0), .val (.int q1), .val (.int q2)] [(.ref b24), (.ref b21), (.ref b21)])) rfl (by rw [hml]; rfl) (Steps.refl _) (a := b21) (argsL := [(.ref b24)]) (rest := [(.ref b21)]) (lenOf own_pd_1 rfl) rfl (by show 2 * 0 + _ ≤ _; exact Nat.le_of_eq rfl) (hb hby d1_31) (fun _ _ => ⟨rfl, e28, (by decide : 2 + 1 ≤ _), (by decide : 5 + 1 ≤ _)⟩)
      dsimp only [Pt.U, Pt.locs, Pt.cells, Pt.slots] at X31 l31 y31 z31 st31 hQ31
      subst l31 y31 z31
      obtain ⟨rfl, Nq31, Kq31, pE31, pC31, t31, tk31, tg31, tl31, tne31, pV31, pA31⟩ := hQ31
      have N31 := Fr.app N28 Nq31
      have g_t31 : n0 ≤ t31 := Nat.le_trans f32 tl31
      have q_t31 : Safe Z own_EL s.vm h28 t31 := Safe.new tl31
      have sz_t31 : h0.size ≤ t31 := Nat.le_trans K30.1 tl31
      have R38 : CHr Z own_EL s.vm h0 s.vm T31.heap := R29.trans (CHr.keep Kq31 (sfS f37 sf0) R29.1)
      have K39 : Keep h0 T31.heap [] := K30.trans Kq31 (allS (Or.inr sz_b21) all0)
      have hcs : own_cs q0 q1 q2 = [q1] := by unfold own_cs; rw [if_neg hcx2, if_pos hcx20]
      have hRe := R38.trans (CHv.at X31 hZ0 hEL R38.1)
      rw [← hh] at hRe
      have f40 : h0.size ≤ T31.heap.size := (Nat.le_trans (Nat.le_trans (Nat.le_trans (Nat.le_trans Y0 E21.1) E24.1) (Keep.of_wr W28).1) Kq31.1)
      obtain ⟨fs, hr, hrun, hended, hend⟩ := X31.leaveW hS0 f40 (v := (some (.ref b21))) (fun h => by rw [Bd.returns] at h; cases h)
      refine ⟨_, _, pre19 _ ?_, hrun, hended, _, _, rfl, ?_, hRe, hend.1, hend.2.1, hend.2.2.1, hend.2.2.2.mono (by decide) (by decide)⟩
      · show Steps p.tables e below (s₁.setTop (mkF m 17 #[.val (.int q0), .val (.int q1), .val (.int q2)] [(.int (1 : Int32)), (.int q0)])) _
        refine XS.icmpNo X0.here hx rfl (hb hby d1_17) rfl (teq hcx20).2 ?_
        show Steps p.tables e below (s₁.setTop (mkF m 20 #[.val (.int q0), .val (.int q1), .val (.int q2)] [])) _
        refine st21 _ ?_
        show Steps p.tables e below (T21.setTop (mkF m 23 #[.val (.int q0), .val (.int q1), .val (.int q2)] [(.ref b21)])) _
        refine XS.dup X21.here hx rfl (hb hby d1_23) rfl rfl ?_
        show Steps p.tables e below (T21.setTop (mkF m 24 #[.val (.int q0), .val (.int q1), .val (.int q2)] [(.ref b21), (.ref b21)])) _
        refine XS.iconst X21.here hx rfl (hb hby d1_24) ?_
        show Steps p.tables e below (T21.setTop (mkF m 25 #[.val (.int q0), .val (.int q1), .val (.int q2)] [(.int (1 : Int32)), (.ref b21), (.ref b21)])) _
        refine st24 _ ?_
        show Steps p.tables e below (T24.setTop (mkF m 27 #[.val (.int q0), .val (.int q1), .val (.int q2)] [(.ref b24), (.ref b21), (.ref b21)])) _
        refine XS.dup X24.here hx rfl (hb hby d1_27) rfl rfl ?_
        show Steps p.tables e below (T24.setTop (mkF m 28 #[.val (.int q0), .val (.int q1), .val (.int q2)] [(.ref b24), (.ref b24), (.ref b21), (.ref b21)])) _
        refine XS.iconst X24.here hx rfl (hb hby d1_28) ?_
        show Steps p.tables e below (T24.setTop (mkF m 29 #[.val (.int q0), .val (.int q1), .val (.int q2)] [(.int (0 : Int32)), (.ref b24), (.ref b24), (.ref b21), (.ref b21)])) _
        refine XS.iloadN X24.here hx rfl (hb hby d1_29) rfl ?_
        show Steps p.tables e below (T24.setTop (mkF m 30 #[.val (.int q0), .val (.int q1), .val (.int q2)] [(.int q1), (.int (0 : Int32)), (.ref b24), (.ref b24), (.ref b21), (.ref b21)])) _
        refine st28 _ ?_
        show Steps p.tables e below (T28.setTop (mkF m 31 #[.val (.int q0), .val (.int q1), .val (.int q2)] [(.ref b24), (.ref b21), (.ref b21)])) _
        refine st31.trans ?_
        show Steps p.tables e below (T31.setTop (mkF m 34 #[.val (.int q0), .val (.int q1), .val (.int q2)] [(.ref b21)])) _
        exact retOut X31 hx Bd.returns rfl (Or.inr (Or.inr (Or.inr (Or.inr ⟨rfl, rfl, rfl⟩)))) (hb hby d1_34) hr
      · show Qstr Z q0 q1 q2 G1 h0 n0 _ T31.heap _
        exact ⟨b21, t31, tk31, N31, K39, sz_b21, pE31, pC31, pV31, (by rw [hcs]; have q := pA31; rw [own_nar hc1] at q; exact q), trivial, rfl⟩
    · skip
      obtain ⟨T41, h41, X41, e41, E41, A41, D41, -, st41⟩ := newO X0 hx hZ0 hown0 (own_k hw 5 rfl) (own_k hw 6 rfl) (own_k hw 7 rfl) e0 (g := (mkF m 35 #[.val (.int q0), .val (.int q1), .val (.int q2)] [])) rfl (hb hby d1_35) (by decide) (by decide)
      obtain ⟨b41, g41⟩ : ∃ z, z = h0.size := ⟨_, rfl⟩
      rw [← g41] at A41 D41 st41
      have g_b41 : n0 ≤ b41 := Nat.le_trans Z0 (Nat.le_of_eq g41.symm)
      have q_b41 : Safe Z own_EL s.vm h0 b41 := Safe.new (Nat.le_of_eq g41.symm)
      have sz_b41 : h0.size ≤ b41 := Nat.le_trans (Keep.refl h0 []).1 (Nat.le_of_eq g41.symm)
      have K42 : Keep h0 h41 [] := (Keep.refl h0 []).ext E41
      have R43 : CHr Z own_EL s.vm h0 s.vm h41 := R0.trans (CHr.ext E41 R0.1)
      have F41_value : Fld Z h41 b41 "java/lang/String" "value" "[B" .null := D41 (Or.inr (own_k hw 21 rfl)) (ty := (.array .byte)) (by decide)
      have F41_coder : Fld Z h41 b41 "java/lang/String" "coder" "B" (.int (0 : Int32)) := D41 (Or.inr (own_k hw 22 rfl)) (ty := .byte) (by decide)
      obtain ⟨T44, h44, k44, X44, e44, E44, A44, st44⟩ := newP X41 hx hZ0 (own_k hw 8 rfl) e41 (g := (mkF m 40 #[.val (.int q0), .val (.int q1), .val (.int q2)] [(.int (2 : Int32)), (.ref b41), (.ref b41)])) rfl (hb hby d1_40) rfl (by decide) (cap := 2) (by decide) (by decide) (by decide) (by decide)
      obtain ⟨b44, g44⟩ : ∃ z, z = h41.size := ⟨_, rfl⟩
      rw [← g44] at A44 st44
      have f45 : n0 ≤ h41.size := (Nat.le_trans Z0 E41.1)
      have g_b44 : n0 ≤ b44 := Nat.le_trans f45 (Nat.le_of_eq g44.symm)
      have q_b44 : Safe Z own_EL s.vm h41 b44 := Safe.new (Nat.le_of_eq g44.symm)
      have sz_b44 : h0.size ≤ b44 := Nat.le_trans K42.1 (Nat.le_of_eq g44.symm)
      have K46 : Keep h0 h44 [] := K42.ext E44
      have R47 : CHr Z own_EL s.vm h0 s.vm h44 := R43.trans (CHr.ext E44 R43.1)
      have V44 : Arv Z h44 b44 k44 .char (2 : Int32) [(.int (0 : Int32)), (.int (0 : Int32))] (.int (0 : Int32)) := (Arv.new A44 (by decide)).pad (pad_rep [] (.int (0 : Int32)) 2)
      obtain ⟨cl48, Ar48, q48, S48, M48, H48, G48⟩ := id V44
      have hin48 : ¬ ((0 : Int32) < 0 ∨ cl48.slots.size ≤ ((0 : Int32)).toNatClampNeg) := inb_of S48 ⟨by decide, by decide⟩
      obtain ⟨T48, h48, X48, e48, W48, st48⟩ := stC X44 hx hZ0 e44 Ar48 (j := (0 : Int32)) hin48 (g := (mkF m 45 #[.val (.int q0), .val (.int q1), .val (.int q2)] [(.int q1), (.int (0 : Int32)), (.ref b44), (.ref b44), (.ref b41), (.ref b41)])) rfl rfl (hb hby d1_45)
      have R49 : CHr Z own_EL s.vm h0 s.vm h48 := R47.trans (CHr.wr W48 (Safe.arv hZ0.alike V44 (by decide)) R47.1)
      have N48 := Fr.snoc X48 N0 g_b44
      have K50 : Keep h0 h48 [] := K46.wr W48 (Or.inr sz_b44)
      have V48 : Arv Z h48 b44 k44 .char (2 : Int32) [(.int (nar .char q1)), (.int (0 : Int32))] (.int (0 : Int32)) := Arv.set Ar48 q48 S48 M48 H48 G48 (fits_nar_char _) W48 0 rfl (Nat.le_of_ble_eq_true rfl)
      obtain ⟨cl51, Ar51, q51, S51, M51, H51, G51⟩ := id V48
      have hin51 : ¬ ((1 : Int32) < 0 ∨ cl51.slots.size ≤ ((1 : Int32)).toNatClampNeg) := inb_of S51 ⟨by decide, by decide⟩
      obtain ⟨T51, h51, X51, e51, W51, st51⟩ := stC X48 hx hZ0 e48 Ar51 (j := (1 : Int32)) hin51 (g := (mkF m 49 #[.val (.int q0), .val (.int q1), .val (.int q2)] [(.int q2), (.int (1 : Int32)), (.ref b44), (.ref b44), (.ref b41), (.ref b41)])) rfl rfl (hb hby d1_49)
      have R52 : CHr Z own_EL s.vm h0 s.vm h51 := R49.trans (CHr.wr W51 (Safe.arv hZ0.alike V48 (by decide)) R49.1)
      have N51 := Fr.snoc X51 N48 g_b44
      have K53 : Keep h0 h51 [] := K50.wr W51 (Or.inr sz_b44)
      have V51 : Arv Z h51 b44 k44 .char (2 : Int32) [(.int (nar .char q1)), (.int (nar .char q2))] (.int (0 : Int32)) := Arv.set Ar51 q51 S51 M51 H51 G51 (fits_nar_char _) W51 1 rfl (Nat.le_of_ble_eq_true rfl)
      have hp54 : ∀ c ∈ ([(nar .char q1), (nar .char q2)] : List Int32), ¬ c < 0 ∧ ¬ (255 : Int32) < c := by
        intro c hc
        simp only [List.mem_cons, List.not_mem_nil, or_false] at hc
        rcases hc with rfl | rfl
        · exact own_narC (by assumption)
        · exact own_narC (by assumption)
      have hws54 : ∀ d ∈ StrChars.Road.words, d.before a0 Z = true := fun d hd => hw d ((by decide +kernel : ∀ d ∈ StrChars.Road.words, d ∈ tables_1) d hd)
      have f55 : n0 ≤ h51.size := (Nat.le_trans (Nat.le_trans (Nat.le_trans f45 E44.1) (Keep.of_wr W48).1) (Keep.of_wr W51).1)
      have f56 : Exa Z h51 b41 "java/lang/String" := (((A41.ext E44).wr W48).wr W51)
      have f57 : Fld Z h51 b41 "java/lang/String" "value" "[B" .null := (((F41_value.ext E44).other W48 (Or.inl (Nat.ne_of_lt (Nat.lt_of_lt_of_le A41.lt (Nat.le_of_eq g44.symm))))).other W51 (Or.inl (Nat.ne_of_lt (Nat.lt_of_lt_of_le A41.lt (Nat.le_of_eq g44.symm)))))
      have f58 : Fld Z h51 b41 "java/lang/String" "coder" "B" (.int (0 : Int32)) := (((F41_coder.ext E44).other W48 (Or.inl (Nat.ne_of_lt (Nat.lt_of_lt_of_le A41.lt (Nat.le_of_eq g44.symm))))).other W51 (Or.inl (Nat.ne_of_lt (Nat.lt_of_lt_of_le A41.lt (Nat.le_of_eq g44.symm)))))
      have f59 : Old Z n0 h51 := ((((hO.ext E41).ext E44).wr W48 g_b44).wr W51 g_b44)
      have f60 : Safe Z own_EL s.vm h51 b41 := (Safe.wr W51 (Safe.arv hZ0.alike V48 (by decide)) R49.1 (Safe.wr W48 (Safe.arv hZ0.alike V44 (by decide)) R47.1 (Safe.ext E44 R43.1 (Safe.ext E41 R0.1 q_b41))))
      obtain ⟨_, _, ⟨T54, L54, k54, n54⟩, -, X54, ⟨Lc54, hQ54, l54, y54, z54⟩, st54⟩ := X51.specialBack hx (y := (⟨"java/lang/String", "<init>", "([C)V"⟩ : MethodName)) rfl hown0 (mvT hZ0 (own_k hw 9 rfl)) (mvT hZ0 (own_k hw 10 rfl)) (mvT hZ0 (own_k hw 11 rfl)) (by decide) (StrChars.Road.backV (W := 1) hZ0 hws54 (kI := 4) (own_k hw 6 rfl) (cs := ([(nar .char q1), (nar .char q2)] : List Int32)) (bs := (([(nar .char q1), (nar .char q2)] : List Int32)).map (fun c => c.toInt8.toInt32)) (n := 2) g_b41 f55 f56 f57 f58 V51 (hS.ext f59.2) hG rfl rfl (by decide) (by decide) hp54 rfl (by decide) (by decide)) (g := (mkF m 50 #[.val (.int q0), .val (.int q1), .val (.int q2)] [(.ref b44), (.ref b41), (.ref b41)])) rfl (by rw [hml]; rfl) (Steps.refl _) (a := b41) (argsL := [(.ref b44)]) (rest := [(.ref b41)]) (lenOf own_pd_1 rfl) rfl (by show 2 * 0 + _ ≤ _; exact Nat.le_of_eq rfl) (hb hby d1_50) (fun _ _ => ⟨rfl, e51, (by decide : 2 + 1 ≤ _), (by decide : 6 + 2 ≤ _)⟩)
      dsimp only [Pt.U, Pt.locs, Pt.cells, Pt.slots] at X54 l54 y54 z54 st54 hQ54
      subst l54 y54 z54
      obtain ⟨rfl, Nq54, Kq54, pE54, pC54, t54, tk54, tg54, tl54, tne54, pV54, pA54⟩ := hQ54
      have N54 := Fr.app N51 Nq54
      have g_t54 : n0 ≤ t54 := Nat.le_trans f55 tl54
      have q_t54 : Safe Z own_EL s.vm h51 t54 := Safe.new tl54
      have sz_t54 : h0.size ≤ t54 := Nat.le_trans K53.1 tl54
      have R61 : CHr Z own_EL s.vm h0 s.vm T54.heap := R52.trans (CHr.keep Kq54 (sfS f60 sf0) R52.1)
      have K62 : Keep h0 T54.heap [] := K53.trans Kq54 (allS (Or.inr sz_b41) all0)
      have hcs : own_cs q0 q1 q2 = [q1, q2] := by unfold own_cs; rw [if_neg hcx2, if_neg hcx20]
      have hRe := R61.trans (CHv.at X54 hZ0 hEL R61.1)
      rw [← hh] at hRe
      have f63 : h0.size ≤ T54.heap.size := (Nat.le_trans (Nat.le_trans (Nat.le_trans (Nat.le_trans (Nat.le_trans Y0 E41.1) E44.1) (Keep.of_wr W48).1) (Keep.of_wr W51).1) Kq54.1)
      obtain ⟨fs, hr, hrun, hended, hend⟩ := X54.leaveW hS0 f63 (v := (some (.ref b41))) (fun h => by rw [Bd.returns] at h; cases h)
      refine ⟨_, _, pre19 _ ?_, hrun, hended, _, _, rfl, ?_, hRe, hend.1, hend.2.1, hend.2.2.1, hend.2.2.2.mono (by decide) (by decide)⟩
      · show Steps p.tables e below (s₁.setTop (mkF m 17 #[.val (.int q0), .val (.int q1), .val (.int q2)] [(.int (1 : Int32)), (.int q0)])) _
        refine XS.icmpYes X0.here hx rfl (pc0 := 17) (pc' := 35) rfl (hb hby d1_17) rfl (feq hcx20).2 (by decide) (by decide) ?_
        show Steps p.tables e below (s₁.setTop (mkF m 35 #[.val (.int q0), .val (.int q1), .val (.int q2)] [])) _
        refine st41 _ ?_
        show Steps p.tables e below (T41.setTop (mkF m 38 #[.val (.int q0), .val (.int q1), .val (.int q2)] [(.ref b41)])) _
        refine XS.dup X41.here hx rfl (hb hby d1_38) rfl rfl ?_
        show Steps p.tables e below (T41.setTop (mkF m 39 #[.val (.int q0), .val (.int q1), .val (.int q2)] [(.ref b41), (.ref b41)])) _
        refine XS.iconst X41.here hx rfl (hb hby d1_39) ?_
        show Steps p.tables e below (T41.setTop (mkF m 40 #[.val (.int q0), .val (.int q1), .val (.int q2)] [(.int (2 : Int32)), (.ref b41), (.ref b41)])) _
        refine st44 _ ?_
        show Steps p.tables e below (T44.setTop (mkF m 42 #[.val (.int q0), .val (.int q1), .val (.int q2)] [(.ref b44), (.ref b41), (.ref b41)])) _
        refine XS.dup X44.here hx rfl (hb hby d1_42) rfl rfl ?_
        show Steps p.tables e below (T44.setTop (mkF m 43 #[.val (.int q0), .val (.int q1), .val (.int q2)] [(.ref b44), (.ref b44), (.ref b41), (.ref b41)])) _
        refine XS.iconst X44.here hx rfl (hb hby d1_43) ?_
        show Steps p.tables e below (T44.setTop (mkF m 44 #[.val (.int q0), .val (.int q1), .val (.int q2)] [(.int (0 : Int32)), (.ref b44), (.ref b44), (.ref b41), (.ref b41)])) _
        refine XS.iloadN X44.here hx rfl (hb hby d1_44) rfl ?_
        show Steps p.tables e below (T44.setTop (mkF m 45 #[.val (.int q0), .val (.int q1), .val (.int q2)] [(.int q1), (.int (0 : Int32)), (.ref b44), (.ref b44), (.ref b41), (.ref b41)])) _
        refine st48 _ ?_
        show Steps p.tables e below (T48.setTop (mkF m 46 #[.val (.int q0), .val (.int q1), .val (.int q2)] [(.ref b44), (.ref b41), (.ref b41)])) _
        refine XS.dup X48.here hx rfl (hb hby d1_46) rfl rfl ?_
        show Steps p.tables e below (T48.setTop (mkF m 47 #[.val (.int q0), .val (.int q1), .val (.int q2)] [(.ref b44), (.ref b44), (.ref b41), (.ref b41)])) _
        refine XS.iconst X48.here hx rfl (hb hby d1_47) ?_
        show Steps p.tables e below (T48.setTop (mkF m 48 #[.val (.int q0), .val (.int q1), .val (.int q2)] [(.int (1 : Int32)), (.ref b44), (.ref b44), (.ref b41), (.ref b41)])) _
        refine XS.iloadN X48.here hx rfl (hb hby d1_48) rfl ?_
        show Steps p.tables e below (T48.setTop (mkF m 49 #[.val (.int q0), .val (.int q1), .val (.int q2)] [(.int q2), (.int (1 : Int32)), (.ref b44), (.ref b44), (.ref b41), (.ref b41)])) _
        refine st51 _ ?_
        show Steps p.tables e below (T51.setTop (mkF m 50 #[.val (.int q0), .val (.int q1), .val (.int q2)] [(.ref b44), (.ref b41), (.ref b41)])) _
        refine st54.trans ?_
        show Steps p.tables e below (T54.setTop (mkF m 53 #[.val (.int q0), .val (.int q1), .val (.int q2)] [(.ref b41)])) _
        exact retOut X54 hx Bd.returns rfl (Or.inr (Or.inr (Or.inr (Or.inr ⟨rfl, rfl, rfl⟩)))) (hb hby d1_53) hr
      · show Qstr Z q0 q1 q2 G1 h0 n0 _ T54.heap _
        exact ⟨b41, t54, tk54, N54, K62, sz_b41, pE54, pC54, pV54, (by rw [hcs]; have q := pA54; rw [own_nar hc1, own_nar hc2] at q; exact q), trivial, rfl⟩
theorem own_pn_2 : plainName "java/util/Objects" = true := by first | (simp [plainName, overriddenIn]; done) | decide +kernel
theorem d6_0 : decode jdk_31_method_11_code 0 = .ok (.aload_n 0, 1) := by decide +kernel
theorem d6_1 : decode jdk_31_method_11_code 1 = .ok (.ifnonnull 12, 3) := by decide +kernel
theorem d6_13 : decode jdk_31_method_11_code 13 = .ok (.aload_n 0, 1) := by decide +kernel
theorem d6_14 : decode jdk_31_method_11_code 14 = .ok (.areturn, 1) := by decide +kernel
theorem ef_rnn (m : MethodId) (a1 : Addr) (a2 : Addr) : entryFrame m #[(.ref a1), (.ref a2)] 2 = mkF m 0 #[.val (.ref a1), .val (.ref a2)] [] := by first | (simp [entryFrame, mkF, argsToLocals, Value.category]; done) | rfl
def Qrnn (Z : State) (a1 : Addr) (a2 : Addr) (h0 : Heap) (n0 : Nat) (v : Option Value) (h : Heap) (L : List Loc) : Prop := Fr n0 L ∧ h = h0 ∧ (v = some (.ref a1))
set_option maxRecDepth 65536 in
set_option maxHeartbeats 40000000 in
theorem rmRnn (l : Launch) (Z : State) (a0 : Array Value) (hw : ∀ d ∈ tables_1, d.before a0 Z = true) (ws : List Jvm.Cond) (a1 : Addr) (a2 : Addr) (h0 : Heap) (n0 : Nat) (Z0 : n0 ≤ h0.size)  :
    MetFree l (⟨"java/util/Objects", "requireNonNull", "(Ljava/lang/Object;Ljava/lang/String;)Ljava/lang/Object;"⟩ : MethodName) (head1 (Jvm.Cond.code (⟨"java/util/Objects", "requireNonNull", "(Ljava/lang/Object;Ljava/lang/String;)Ljava/lang/Object;"⟩ : MethodName) jdk_31_method_11_code 2 (some (.object "java/lang/Object")) :: ws) ({ frames := 0, cells := 0, slots := 0, locals := 0 } : Room)) (fun a U => a = #[(.ref a1), (.ref a2)] ∧ Z.Warmed39 U.vm ∧ U.heap = h0) (fun _ _ _ _ _ => True) (fun _ U o U' => ∃ v L, o = .returned v ∧ Qrnn Z a1 a2 h0 n0 v U'.heap L ∧ FrameEnd U o U' L ({ frames := 0, cells := 0, slots := 0, locals := 0 } : Room).cells ({ frames := 0, cells := 0, slots := 0, locals := 0 } : Room).slots) := by
  refine MetFree.of_bodySF (plainFor_of_name own_pn_2) hisR ?_
  intro p e s m args below meth c s₁ Bd hml0 hP hK
  obtain ⟨rfl, hZ, hh⟩ := hP
  have hx := Bd.exec
  have hby := Bd.bytes
  have hml : c.maxLocals = 2 := hml0
  have hown : s.vm.findClass "java/util/Objects" = some m.cls := findClass_of_methodNamed Bd.named
  have hnm := (name_of_methodNamed Bd.named Bd.method).1
  have X0 : Stand p l e ({ frames := 0, cells := 0, slots := 0, locals := 0 } : Room) s m #[(.ref a1), (.ref a2)] below meth c s₁ [] 0 0 := Stand.of_body Bd
  have e0 : s₁.heap = h0 := by rw [← hh, Bd.state]; rfl
  have N0 := Fr.nil n0
  have pre0 : ∀ t, Steps p.tables e below (s₁.setTop (mkF m 0 #[.val (.ref a1), .val (.ref a2)] [])) t → Steps p.tables e below (s₁.setTop (entryFrame m #[(.ref a1), (.ref a2)] 2)) t := fun t k => castTop (ef_rnn m a1 a2) k
  obtain ⟨fs, hr, hrun, hended, hW, hsame⟩ := X0.leave (v := (some (.ref a1))) (fun h => by rw [Bd.returns] at h; cases h)
  refine ⟨_, _, pre0 _ ?_, hrun, hended, _, _, rfl, ?_, ⟨_, rfl⟩, hW, hsame.mono (by decide) (by decide)⟩
  · show Steps p.tables e below (s₁.setTop (mkF m 0 #[.val (.ref a1), .val (.ref a2)] [])) _
    refine XS.aloadN X0.here hx rfl (hb hby d6_0) rfl rfl ?_
    show Steps p.tables e below (s₁.setTop (mkF m 1 #[.val (.ref a1), .val (.ref a2)] [(.ref a1)])) _
    refine XS.ifnonnullYes X0.here hx rfl (pc0 := 1) (pc' := 13) rfl (hb hby d6_1) rfl (by decide) (by decide) ?_
    show Steps p.tables e below (s₁.setTop (mkF m 13 #[.val (.ref a1), .val (.ref a2)] [])) _
    refine XS.aloadN X0.here hx rfl (hb hby d6_13) rfl rfl ?_
    show Steps p.tables e below (s₁.setTop (mkF m 14 #[.val (.ref a1), .val (.ref a2)] [(.ref a1)])) _
    exact retOut X0 hx Bd.returns rfl (Or.inr (Or.inr (Or.inr (Or.inr ⟨rfl, rfl, rfl⟩)))) (hb hby d6_14) hr
  · show Qrnn Z a1 a2 h0 n0 _ s₁.heap _
    rw [e0]
    exact ⟨N0, rfl, rfl⟩
theorem own_pn_3 : plainName "com/example/multilingual_query_search/multilingualquerysearch/translation/DictdIndexEntry" = true := by first | (simp [plainName, overriddenIn]; done) | decide +kernel
theorem d5_0 : decode prog_31_method_1_code 0 = .ok (.aload_n 0, 1) := by decide +kernel
theorem d5_1 : decode prog_31_method_1_code 1 = .ok (.invokespecial 1, 3) := by decide +kernel
theorem d5_4 : decode prog_31_method_1_code 4 = .ok (.aload_n 1, 1) := by decide +kernel
theorem d5_5 : decode prog_31_method_1_code 5 = .ok (.ldc 7, 2) := by decide +kernel
theorem d5_7 : decode prog_31_method_1_code 7 = .ok (.invokestatic 9, 3) := by decide +kernel
theorem own_pd_2 : parseMethodDescriptor "(Ljava/lang/Object;Ljava/lang/String;)Ljava/lang/Object;" = some ⟨[(.object "java/lang/Object"), (.object "java/lang/String")], some (.object "java/lang/Object")⟩ := by decide +kernel
theorem d5_10 : decode prog_31_method_1_code 10 = .ok (.pop, 1) := by decide +kernel
theorem d5_11 : decode prog_31_method_1_code 11 = .ok (.lload_n 2, 1) := by decide +kernel
theorem d5_12 : decode prog_31_method_1_code 12 = .ok (.lconst 0, 1) := by decide +kernel
theorem d5_13 : decode prog_31_method_1_code 13 = .ok (.lcmp, 1) := by decide +kernel
theorem d5_14 : decode prog_31_method_1_code 14 = .ok (.ifCond .lt 10, 3) := by decide +kernel
theorem d5_17 : decode prog_31_method_1_code 17 = .ok (.lload 4, 2) := by decide +kernel
theorem d5_19 : decode prog_31_method_1_code 19 = .ok (.lconst 0, 1) := by decide +kernel
theorem d5_20 : decode prog_31_method_1_code 20 = .ok (.lcmp, 1) := by decide +kernel
theorem d5_21 : decode prog_31_method_1_code 21 = .ok (.ifCond .ge 19, 3) := by decide +kernel
theorem d5_40 : decode prog_31_method_1_code 40 = .ok (.aload_n 0, 1) := by decide +kernel
theorem d5_41 : decode prog_31_method_1_code 41 = .ok (.aload_n 1, 1) := by decide +kernel
theorem d5_42 : decode prog_31_method_1_code 42 = .ok (.putfield 24, 3) := by decide +kernel
theorem d5_45 : decode prog_31_method_1_code 45 = .ok (.aload_n 0, 1) := by decide +kernel
theorem d5_46 : decode prog_31_method_1_code 46 = .ok (.lload_n 2, 1) := by decide +kernel
theorem d5_47 : decode prog_31_method_1_code 47 = .ok (.putfield 29, 3) := by decide +kernel
theorem d5_50 : decode prog_31_method_1_code 50 = .ok (.aload_n 0, 1) := by decide +kernel
theorem d5_51 : decode prog_31_method_1_code 51 = .ok (.lload 4, 2) := by decide +kernel
theorem d5_53 : decode prog_31_method_1_code 53 = .ok (.putfield 33, 3) := by decide +kernel
theorem d5_56 : decode prog_31_method_1_code 56 = .ok (.return_, 1) := by decide +kernel
theorem ef_ini (m : MethodId) (a1 : Addr) (a2 : Addr) (j3 : Int64) (j4 : Int64) : entryFrame m #[(.ref a1), (.ref a2), (.long j3), (.long j4)] 6 = mkF m 0 #[.val (.ref a1), .val (.ref a2), .val (.long j3), .second, .val (.long j4), .second] [] := by first | (simp [entryFrame, mkF, argsToLocals, Value.category]; done) | rfl
def Qini (Z : State) (a1 : Addr) (a2 : Addr) (j3 : Int64) (j4 : Int64) (h0 : Heap) (n0 : Nat) (v : Option Value) (h : Heap) (L : List Loc) : Prop := Fr n0 L ∧ Keep h0 h [a1] ∧ Exa Z h a1 "com/example/multilingual_query_search/multilingualquerysearch/translation/DictdIndexEntry" ∧ Fld Z h a1 "com/example/multilingual_query_search/multilingualquerysearch/translation/DictdIndexEntry" "headword" "Ljava/lang/String;" (.ref a2) ∧ Fld Z h a1 "com/example/multilingual_query_search/multilingualquerysearch/translation/DictdIndexEntry" "offset" "J" (.long j3) ∧ Fld Z h a1 "com/example/multilingual_query_search/multilingualquerysearch/translation/DictdIndexEntry" "length" "J" (.long j4) ∧ (v = none)
set_option maxRecDepth 65536 in
set_option maxHeartbeats 40000000 in
theorem rmInit (l : Launch) (Z : State) (a0 : Array Value) (hw : ∀ d ∈ tables_1, d.before a0 Z = true) (ws : List Jvm.Cond) (a1 : Addr) (a2 : Addr) (j3 : Int64) (j4 : Int64) (h0 : Heap) (n0 : Nat) (Z0 : n0 ≤ h0.size) (hE : Exa Z h0 a1 "com/example/multilingual_query_search/multilingualquerysearch/translation/DictdIndexEntry") (hF1 : Fld Z h0 a1 "com/example/multilingual_query_search/multilingualquerysearch/translation/DictdIndexEntry" "headword" "Ljava/lang/String;" .null) (hF2 : Fld Z h0 a1 "com/example/multilingual_query_search/multilingualquerysearch/translation/DictdIndexEntry" "offset" "J" (.long (0 : Int64))) (hF3 : Fld Z h0 a1 "com/example/multilingual_query_search/multilingualquerysearch/translation/DictdIndexEntry" "length" "J" (.long (0 : Int64))) (hG1 : n0 ≤ a1) (hp1 : ¬ ((lcmpW j3 (0 : Int64)) < (0 : Int32))) (hp2 : ¬ ((lcmpW j4 (0 : Int64)) < (0 : Int32))) :
    MetFree l (⟨"com/example/multilingual_query_search/multilingualquerysearch/translation/DictdIndexEntry", "<init>", "(Ljava/lang/String;JJ)V"⟩ : MethodName) (head1 (Jvm.Cond.code (⟨"com/example/multilingual_query_search/multilingualquerysearch/translation/DictdIndexEntry", "<init>", "(Ljava/lang/String;JJ)V"⟩ : MethodName) prog_31_method_1_code 6 none :: ws) ({ frames := 1, cells := 2, slots := 36, locals := 13 } : Room)) (fun a U => a = #[(.ref a1), (.ref a2), (.long j3), (.long j4)] ∧ Z.Warmed39 U.vm ∧ U.heap = h0 ∧ CHv Z own_EL U.vm h0 ∧ ∀ x ∈ ([] : List Addr), Safe Z own_EL U.vm h0 x) (fun _ _ _ _ _ => True) (fun _ U o U' => ∃ v L, o = .returned v ∧ Qini Z a1 a2 j3 j4 h0 n0 v U'.heap L ∧ CHr Z own_EL U.vm U.heap U'.vm U'.heap ∧ ReturnedEndW U o U' L ({ frames := 1, cells := 2, slots := 36, locals := 13 } : Room).cells ({ frames := 1, cells := 2, slots := 36, locals := 13 } : Room).slots) := by
  refine MetFree.of_bodySF (plainFor_of_name own_pn_3) hisR ?_
  intro p e s m args below meth c s₁ Bd hml0 hP hK
  obtain ⟨rfl, hZ, hh, hCH, hQs⟩ := hP
  have hx := Bd.exec
  have hby := Bd.bytes
  have hml : c.maxLocals = 6 := hml0
  have hown : s.vm.findClass "com/example/multilingual_query_search/multilingualquerysearch/translation/DictdIndexEntry" = some m.cls := findClass_of_methodNamed Bd.named
  have hnm := (name_of_methodNamed Bd.named Bd.method).1
  have X0 : Stand p l e ({ frames := 1, cells := 2, slots := 36, locals := 13 } : Room) (s.setVm s.vm) m #[(.ref a1), (.ref a2), (.long j3), (.long j4)] below meth c s₁ [] 0 0 := Stand.of_body Bd
  have e0 : s₁.heap = h0 := by rw [← hh, Bd.state]; rfl
  have N0 := Fr.nil n0
  have pre0 : ∀ t, Steps p.tables e below (s₁.setTop (mkF m 0 #[.val (.ref a1), .val (.ref a2), .val (.long j3), .second, .val (.long j4), .second] [])) t → Steps p.tables e below (s₁.setTop (entryFrame m #[(.ref a1), (.ref a2), (.long j3), (.long j4)] 6)) t := fun t k => castTop (ef_ini m a1 a2 j3 j4) k
  have hZ0 := hZ
  have hown0 := hown
  have hEL : EW Z a0 own_EL := (EW.cons (own_k hw 19 rfl) (by decide) EW.nil)
  have hwS : ∀ a ∈ Bundle.stringAtoms, a.before a0 Z = true := fun d hd => hw d ((by decide +kernel : ∀ d ∈ Bundle.stringAtoms, d ∈ tables_1) d hd)
  have hS0 : s.Since s.vm h0.size := (State.WarmedH.refl s).since _
  have Y0 : h0.size ≤ h0.size := Nat.le_refl _
  have R0 : CHr Z own_EL s.vm h0 s.vm h0 := CHr.refl hCH
  obtain ⟨T1, X1, e1, st1⟩ := initO X0 hx hZ0 hown0 (own_k hw 33 rfl) (own_k hw 17 rfl) (own_k hw 18 rfl) e0 (g := (mkF m 1 #[.val (.ref a1), .val (.ref a2), .val (.long j3), .second, .val (.long j4), .second] [(.ref a1)])) rfl (by rw [hml]; rfl) rfl (hb hby d5_1) (by decide) (W := 0) (by show 2 * 0 + _ ≤ _; exact Nat.le_of_eq rfl) (by decide)
  obtain ⟨aa2, T2, h2, k2, X2, e2, E2, hS2, hk2, hZ2, hown2, hR2, hL2, st2⟩ := ldcOH X1 hx hZ0 hown0 (own_k hw 34 rfl) hwS e1 hS0 Y0 hEL R0.1 (g := (mkF m 5 #[.val (.ref a1), .val (.ref a2), .val (.long j3), .second, .val (.long j4), .second] [(.ref a2)])) rfl (hb hby d5_5) (n := 32) (by decide) (by decide) (by decide) (by decide)
  have K3 : Keep h0 h2 [a1] := (Keep.refl h0 [a1]).ext E2
  have R4 : CHr Z own_EL s.vm h0 T2.vm h2 := R0.trans (hR2)
  have f6 : n0 ≤ h2.size := (Nat.le_trans Z0 E2.1)
  obtain ⟨_, _, ⟨T5, L5, k5, n5⟩, -, X5, ⟨Lc5, hQ5, l5, y5, z5⟩, st5⟩ := Jvm.LawKit.callS X2 hx (y := (⟨"java/util/Objects", "requireNonNull", "(Ljava/lang/Object;Ljava/lang/String;)Ljava/lang/Object;"⟩ : MethodName)) hown2 (mvT hZ2 (own_k hw 35 rfl)) (mvT hZ2 (own_k hw 36 rfl)) (mvT hZ2 (own_k hw 37 rfl)) (mvT hZ2 (own_k hw 38 rfl)) (by decide) (backOf (W := 0) (rmRnn l Z a0 hw [] a2 aa2 h2 n0 f6 ) hZ2 (own_k hw 38 rfl) (own_k hw 37 rfl) (by decide) (by decide)) (g := (mkF m 7 #[.val (.ref a1), .val (.ref a2), .val (.long j3), .second, .val (.long j4), .second] [(.ref aa2), (.ref a2)])) rfl (by rw [hml]; rfl) (argsL := [(.ref a2), (.ref aa2)]) (rest := []) (lenOf own_pd_2 rfl) rfl (by show 2 * 0 + _ ≤ _; exact Nat.le_of_eq rfl) (hb hby d5_7) (fun _ _ => ⟨rfl, e2, (by decide : 2 + 0 ≤ _), (by decide : 36 + 0 ≤ _)⟩)
  dsimp only [Pt.U, Pt.locs, Pt.cells, Pt.slots] at X5 l5 y5 z5 st5 hQ5
  subst l5 y5 z5
  obtain ⟨Nq5, eh5, hv5⟩ := hQ5
  have N5 := Fr.app N0 Nq5
  subst hv5
  have f7 : Fld Z h2 a1 "com/example/multilingual_query_search/multilingualquerysearch/translation/DictdIndexEntry" "headword" "Ljava/lang/String;" .null := (hF1.ext E2)
  have f8 : Exa Z h2 a1 "com/example/multilingual_query_search/multilingualquerysearch/translation/DictdIndexEntry" := (hE.ext E2)
  obtain ⟨T9, h9, X9, e9, W9, st9⟩ := putF X5 hx hZ2 hown2 (host := "") (Or.inl (own_k hw 39 rfl)) Via.refl eh5 f7 f8 (Or.inr ⟨(own_k hw 40 rfl), rfl, hnm⟩) (own_k hw 28 rfl) (ty := (.object "java/lang/String")) (by decide) rfl rfl (g := (mkF m 42 #[.val (.ref a1), .val (.ref a2), .val (.long j3), .second, .val (.long j4), .second] [(.ref a2), (.ref a1)])) rfl rfl (hb hby d5_42)
  have R10 : CHr Z own_EL s.vm h0 T2.vm h9 := R4.trans (CHr.wr W9 (Safe.exa hZ2.alike f8 (by decide) (by decide)) R4.1)
  have N9 := Fr.snoc X9 N5 hG1
  have K11 : Keep h0 h9 [a1] := K3.wr W9 (Or.inl (List.mem_of_getElem? (i := 0) rfl))
  have Fw9 : Fld Z h9 a1 "com/example/multilingual_query_search/multilingualquerysearch/translation/DictdIndexEntry" "headword" "Ljava/lang/String;" (.ref a2) := f7.same W9
  have f12 : Fld Z h9 a1 "com/example/multilingual_query_search/multilingualquerysearch/translation/DictdIndexEntry" "offset" "J" (.long (0 : Int64)) := ((hF2.ext E2).other W9 (Or.inr (slot_ne (Or.inr (own_k hw 42 rfl)) (Or.inr (own_k hw 40 rfl)) (by decide) (t := .long) (t' := (.object "java/lang/String")) (by decide) (by decide))))
  have f13 : Exa Z h9 a1 "com/example/multilingual_query_search/multilingualquerysearch/translation/DictdIndexEntry" := (f8.wr W9)
  obtain ⟨T14, h14, X14, e14, W14, st14⟩ := putF X9 hx hZ2 hown2 (host := "") (Or.inl (own_k hw 41 rfl)) Via.refl e9 f12 f13 (Or.inr ⟨(own_k hw 42 rfl), rfl, hnm⟩) (own_k hw 28 rfl) (ty := .long) (by decide) rfl rfl (g := (mkF m 47 #[.val (.ref a1), .val (.ref a2), .val (.long j3), .second, .val (.long j4), .second] [(.long j3), (.ref a1)])) rfl rfl (hb hby d5_47)
  have R15 : CHr Z own_EL s.vm h0 T2.vm h14 := R10.trans (CHr.wr W14 (Safe.exa hZ2.alike f13 (by decide) (by decide)) R10.1)
  have N14 := Fr.snoc X14 N9 hG1
  have K16 : Keep h0 h14 [a1] := K11.wr W14 (Or.inl (List.mem_of_getElem? (i := 0) rfl))
  have Fw14 : Fld Z h14 a1 "com/example/multilingual_query_search/multilingualquerysearch/translation/DictdIndexEntry" "offset" "J" (.long j3) := f12.same W14
  have f17 : Fld Z h14 a1 "com/example/multilingual_query_search/multilingualquerysearch/translation/DictdIndexEntry" "length" "J" (.long (0 : Int64)) := (((hF3.ext E2).other W9 (Or.inr (slot_ne (Or.inr (own_k hw 44 rfl)) (Or.inr (own_k hw 40 rfl)) (by decide) (t := .long) (t' := (.object "java/lang/String")) (by decide) (by decide)))).other W14 (Or.inr (slot_ne (Or.inr (own_k hw 44 rfl)) (Or.inr (own_k hw 42 rfl)) (by decide) (t := .long) (t' := .long) (by decide) (by decide))))
  have f18 : Exa Z h14 a1 "com/example/multilingual_query_search/multilingualquerysearch/translation/DictdIndexEntry" := (f13.wr W14)
  obtain ⟨T19, h19, X19, e19, W19, st19⟩ := putF X14 hx hZ2 hown2 (host := "") (Or.inl (own_k hw 43 rfl)) Via.refl e14 f17 f18 (Or.inr ⟨(own_k hw 44 rfl), rfl, hnm⟩) (own_k hw 28 rfl) (ty := .long) (by decide) rfl rfl (g := (mkF m 53 #[.val (.ref a1), .val (.ref a2), .val (.long j3), .second, .val (.long j4), .second] [(.long j4), (.ref a1)])) rfl rfl (hb hby d5_53)
  have R20 : CHr Z own_EL s.vm h0 T2.vm h19 := R15.trans (CHr.wr W19 (Safe.exa hZ2.alike f18 (by decide) (by decide)) R15.1)
  have N19 := Fr.snoc X19 N14 hG1
  have K21 : Keep h0 h19 [a1] := K16.wr W19 (Or.inl (List.mem_of_getElem? (i := 0) rfl))
  have Fw19 : Fld Z h19 a1 "com/example/multilingual_query_search/multilingualquerysearch/translation/DictdIndexEntry" "length" "J" (.long j4) := f17.same W19
  have f22 : Exa Z h19 a1 "com/example/multilingual_query_search/multilingualquerysearch/translation/DictdIndexEntry" := (f18.wr W19)
  have f23 : Fld Z h19 a1 "com/example/multilingual_query_search/multilingualquerysearch/translation/DictdIndexEntry" "headword" "Ljava/lang/String;" (.ref a2) := ((Fw9.other W14 (Or.inr (slot_ne (Or.inr (own_k hw 40 rfl)) (Or.inr (own_k hw 42 rfl)) (by decide) (t := (.object "java/lang/String")) (t' := .long) (by decide) (by decide)))).other W19 (Or.inr (slot_ne (Or.inr (own_k hw 40 rfl)) (Or.inr (own_k hw 44 rfl)) (by decide) (t := (.object "java/lang/String")) (t' := .long) (by decide) (by decide))))
  have f24 : Fld Z h19 a1 "com/example/multilingual_query_search/multilingualquerysearch/translation/DictdIndexEntry" "offset" "J" (.long j3) := (Fw14.other W19 (Or.inr (slot_ne (Or.inr (own_k hw 42 rfl)) (Or.inr (own_k hw 44 rfl)) (by decide) (t := .long) (t' := .long) (by decide) (by decide))))
  have hRe := R20.trans (CHv.at X19 hZ2 hEL R20.1)
  rw [← e19] at hRe
  rw [← hh] at hRe
  have f25 : k2 ≤ h19.size := (Nat.le_trans (Nat.le_trans (Nat.le_trans hk2 (Keep.of_wr W9).1) (Keep.of_wr W14).1) (Keep.of_wr W19).1)
  obtain ⟨fs, hr, hrun, hended, hend⟩ := X19.leaveW hS2 (by rw [e19]; exact f25) (v := none) (fun _ => rfl)
  refine ⟨_, _, pre0 _ ?_, hrun, hended, _, _, rfl, ?_, hRe, hend.1, hend.2.1, hend.2.2.1, hend.2.2.2.mono (by decide) (by decide)⟩
  · show Steps p.tables e below (s₁.setTop (mkF m 0 #[.val (.ref a1), .val (.ref a2), .val (.long j3), .second, .val (.long j4), .second] [])) _
    refine XS.aloadN X0.here hx rfl (hb hby d5_0) rfl rfl ?_
    show Steps p.tables e below (s₁.setTop (mkF m 1 #[.val (.ref a1), .val (.ref a2), .val (.long j3), .second, .val (.long j4), .second] [(.ref a1)])) _
    refine st1 _ ?_
    show Steps p.tables e below (T1.setTop (mkF m 4 #[.val (.ref a1), .val (.ref a2), .val (.long j3), .second, .val (.long j4), .second] [])) _
    refine XS.aloadN X1.here hx rfl (hb hby d5_4) rfl rfl ?_
    show Steps p.tables e below (T1.setTop (mkF m 5 #[.val (.ref a1), .val (.ref a2), .val (.long j3), .second, .val (.long j4), .second] [(.ref a2)])) _
    refine st2 _ ?_
    show Steps p.tables e below (T2.setTop (mkF m 7 #[.val (.ref a1), .val (.ref a2), .val (.long j3), .second, .val (.long j4), .second] [(.ref aa2), (.ref a2)])) _
    refine st5 _ ?_
    show Steps p.tables e below (T5.setTop (mkF m 10 #[.val (.ref a1), .val (.ref a2), .val (.long j3), .second, .val (.long j4), .second] [(.ref a2)])) _
    refine XS.pop X5.here hx rfl (hb hby d5_10) rfl rfl ?_
    show Steps p.tables e below (T5.setTop (mkF m 11 #[.val (.ref a1), .val (.ref a2), .val (.long j3), .second, .val (.long j4), .second] [])) _
    refine XS.lloadN X5.here hx rfl (hb hby d5_11) rfl ?_
    show Steps p.tables e below (T5.setTop (mkF m 12 #[.val (.ref a1), .val (.ref a2), .val (.long j3), .second, .val (.long j4), .second] [(.long j3)])) _
    refine XS.lconst X5.here hx rfl (hb hby d5_12) ?_
    show Steps p.tables e below (T5.setTop (mkF m 13 #[.val (.ref a1), .val (.ref a2), .val (.long j3), .second, .val (.long j4), .second] [(.long (0 : Int64)), (.long j3)])) _
    refine XS.lcmp X5.here hx rfl (hb hby d5_13) rfl ?_
    show Steps p.tables e below (T5.setTop (mkF m 14 #[.val (.ref a1), .val (.ref a2), .val (.long j3), .second, .val (.long j4), .second] [(.int (lcmpW j3 (0 : Int64)))])) _
    refine XS.ifNo X5.here hx rfl (hb hby d5_14) rfl ((if0 _ _).trans (flt hp1).1) ?_
    show Steps p.tables e below (T5.setTop (mkF m 17 #[.val (.ref a1), .val (.ref a2), .val (.long j3), .second, .val (.long j4), .second] [])) _
    refine XS.lload X5.here hx rfl (hb hby d5_17) rfl ?_
    show Steps p.tables e below (T5.setTop (mkF m 19 #[.val (.ref a1), .val (.ref a2), .val (.long j3), .second, .val (.long j4), .second] [(.long j4)])) _
    refine XS.lconst X5.here hx rfl (hb hby d5_19) ?_
    show Steps p.tables e below (T5.setTop (mkF m 20 #[.val (.ref a1), .val (.ref a2), .val (.long j3), .second, .val (.long j4), .second] [(.long (0 : Int64)), (.long j4)])) _
    refine XS.lcmp X5.here hx rfl (hb hby d5_20) rfl ?_
    show Steps p.tables e below (T5.setTop (mkF m 21 #[.val (.ref a1), .val (.ref a2), .val (.long j3), .second, .val (.long j4), .second] [(.int (lcmpW j4 (0 : Int64)))])) _
    refine XS.ifYes X5.here hx rfl (pc0 := 21) (pc' := 40) rfl (hb hby d5_21) rfl ((if0 _ _).trans (flt hp2).2.1) (by decide) (by decide) ?_
    show Steps p.tables e below (T5.setTop (mkF m 40 #[.val (.ref a1), .val (.ref a2), .val (.long j3), .second, .val (.long j4), .second] [])) _
    refine XS.aloadN X5.here hx rfl (hb hby d5_40) rfl rfl ?_
    show Steps p.tables e below (T5.setTop (mkF m 41 #[.val (.ref a1), .val (.ref a2), .val (.long j3), .second, .val (.long j4), .second] [(.ref a1)])) _
    refine XS.aloadN X5.here hx rfl (hb hby d5_41) rfl rfl ?_
    show Steps p.tables e below (T5.setTop (mkF m 42 #[.val (.ref a1), .val (.ref a2), .val (.long j3), .second, .val (.long j4), .second] [(.ref a2), (.ref a1)])) _
    refine st9 _ ?_
    show Steps p.tables e below (T9.setTop (mkF m 45 #[.val (.ref a1), .val (.ref a2), .val (.long j3), .second, .val (.long j4), .second] [])) _
    refine XS.aloadN X9.here hx rfl (hb hby d5_45) rfl rfl ?_
    show Steps p.tables e below (T9.setTop (mkF m 46 #[.val (.ref a1), .val (.ref a2), .val (.long j3), .second, .val (.long j4), .second] [(.ref a1)])) _
    refine XS.lloadN X9.here hx rfl (hb hby d5_46) rfl ?_
    show Steps p.tables e below (T9.setTop (mkF m 47 #[.val (.ref a1), .val (.ref a2), .val (.long j3), .second, .val (.long j4), .second] [(.long j3), (.ref a1)])) _
    refine st14 _ ?_
    show Steps p.tables e below (T14.setTop (mkF m 50 #[.val (.ref a1), .val (.ref a2), .val (.long j3), .second, .val (.long j4), .second] [])) _
    refine XS.aloadN X14.here hx rfl (hb hby d5_50) rfl rfl ?_
    show Steps p.tables e below (T14.setTop (mkF m 51 #[.val (.ref a1), .val (.ref a2), .val (.long j3), .second, .val (.long j4), .second] [(.ref a1)])) _
    refine XS.lload X14.here hx rfl (hb hby d5_51) rfl ?_
    show Steps p.tables e below (T14.setTop (mkF m 53 #[.val (.ref a1), .val (.ref a2), .val (.long j3), .second, .val (.long j4), .second] [(.long j4), (.ref a1)])) _
    refine st19 _ ?_
    show Steps p.tables e below (T19.setTop (mkF m 56 #[.val (.ref a1), .val (.ref a2), .val (.long j3), .second, .val (.long j4), .second] [])) _
    exact X19.returnOut hx Bd.returns (hb hby d5_56) hr
  · show Qini Z a1 a2 j3 j4 h0 n0 _ T19.heap _
    rw [e19]
    exact ⟨N19, K21, f22, f23, f24, Fw19, rfl⟩
theorem d7_0 : decode prog_31_method_8_code 0 = .ok (.aload_n 0, 1) := by decide +kernel
theorem d7_1 : decode prog_31_method_8_code 1 = .ok (.aload_n 1, 1) := by decide +kernel
theorem d7_2 : decode prog_31_method_8_code 2 = .ok (.if_acmp .ne 5, 3) := by decide +kernel
theorem d7_5 : decode prog_31_method_8_code 5 = .ok (.iconst 1, 1) := by decide +kernel
theorem d7_6 : decode prog_31_method_8_code 6 = .ok (.ireturn, 1) := by decide +kernel
theorem ef_eq1 (m : MethodId) (a1 : Addr) (a1 : Addr) : entryFrame m #[(.ref a1), (.ref a1)] 3 = mkF m 0 #[.val (.ref a1), .val (.ref a1), .unset] [] := by first | (simp [entryFrame, mkF, argsToLocals, Value.category]; done) | rfl
def Qeq1 (Z : State) (a1 : Addr) (h0 : Heap) (n0 : Nat) (v : Option Value) (h : Heap) (L : List Loc) : Prop := Fr n0 L ∧ h = h0 ∧ (v = some (.int (1 : Int32)))
set_option maxRecDepth 65536 in
set_option maxHeartbeats 40000000 in
theorem rmEq1 (l : Launch) (Z : State) (a0 : Array Value) (hw : ∀ d ∈ tables_1, d.before a0 Z = true) (ws : List Jvm.Cond) (a1 : Addr) (h0 : Heap) (n0 : Nat) (Z0 : n0 ≤ h0.size)  :
    MetFree l (⟨"com/example/multilingual_query_search/multilingualquerysearch/translation/DictdIndexEntry", "equals", "(Ljava/lang/Object;)Z"⟩ : MethodName) (head1 (Jvm.Cond.code (⟨"com/example/multilingual_query_search/multilingualquerysearch/translation/DictdIndexEntry", "equals", "(Ljava/lang/Object;)Z"⟩ : MethodName) prog_31_method_8_code 3 (some .boolean) :: ws) ({ frames := 0, cells := 0, slots := 0, locals := 0 } : Room)) (fun a U => a = #[(.ref a1), (.ref a1)] ∧ Z.Warmed39 U.vm ∧ U.heap = h0) (fun _ _ _ _ _ => True) (fun _ U o U' => ∃ v L, o = .returned v ∧ Qeq1 Z a1 h0 n0 v U'.heap L ∧ FrameEnd U o U' L ({ frames := 0, cells := 0, slots := 0, locals := 0 } : Room).cells ({ frames := 0, cells := 0, slots := 0, locals := 0 } : Room).slots) := by
  refine MetFree.of_bodySF (plainFor_of_name own_pn_3) hisR ?_
  intro p e s m args below meth c s₁ Bd hml0 hP hK
  obtain ⟨rfl, hZ, hh⟩ := hP
  have hx := Bd.exec
  have hby := Bd.bytes
  have hml : c.maxLocals = 3 := hml0
  have hown : s.vm.findClass "com/example/multilingual_query_search/multilingualquerysearch/translation/DictdIndexEntry" = some m.cls := findClass_of_methodNamed Bd.named
  have hnm := (name_of_methodNamed Bd.named Bd.method).1
  have X0 : Stand p l e ({ frames := 0, cells := 0, slots := 0, locals := 0 } : Room) s m #[(.ref a1), (.ref a1)] below meth c s₁ [] 0 0 := Stand.of_body Bd
  have e0 : s₁.heap = h0 := by rw [← hh, Bd.state]; rfl
  have N0 := Fr.nil n0
  have pre0 : ∀ t, Steps p.tables e below (s₁.setTop (mkF m 0 #[.val (.ref a1), .val (.ref a1), .unset] [])) t → Steps p.tables e below (s₁.setTop (entryFrame m #[(.ref a1), (.ref a1)] 3)) t := fun t k => castTop (ef_eq1 m a1 a1) k
  obtain ⟨fs, hr, hrun, hended, hW, hsame⟩ := X0.leave (v := (some (.int (1 : Int32)))) (fun h => by rw [Bd.returns] at h; cases h)
  refine ⟨_, _, pre0 _ ?_, hrun, hended, _, _, rfl, ?_, ⟨_, rfl⟩, hW, hsame.mono (by decide) (by decide)⟩
  · show Steps p.tables e below (s₁.setTop (mkF m 0 #[.val (.ref a1), .val (.ref a1), .unset] [])) _
    refine XS.aloadN X0.here hx rfl (hb hby d7_0) rfl rfl ?_
    show Steps p.tables e below (s₁.setTop (mkF m 1 #[.val (.ref a1), .val (.ref a1), .unset] [(.ref a1)])) _
    refine XS.aloadN X0.here hx rfl (hb hby d7_1) rfl rfl ?_
    show Steps p.tables e below (s₁.setTop (mkF m 2 #[.val (.ref a1), .val (.ref a1), .unset] [(.ref a1), (.ref a1)])) _
    refine Jvm.RoadKit.acmp (g := (mkF m 2 #[.val (.ref a1), .val (.ref a1), .unset] [(.ref a1), (.ref a1)])) X0 hx rfl rfl rfl (pc0 := 2) (pc' := 5) (same := true) rfl (hb hby d7_2) rfl (decide_eq_true rfl) (by decide) (by decide) ?_
    show Steps p.tables e below (s₁.setTop (mkF m 5 #[.val (.ref a1), .val (.ref a1), .unset] [])) _
    refine XS.iconst X0.here hx rfl (hb hby d7_5) ?_
    show Steps p.tables e below (s₁.setTop (mkF m 6 #[.val (.ref a1), .val (.ref a1), .unset] [(.int (1 : Int32))])) _
    exact retN X0 hx (t := .boolean) Bd.returns (by simp) (hb hby d7_6) hr
  · show Qeq1 Z a1 h0 n0 _ s₁.heap _
    rw [e0]
    exact ⟨N0, rfl, rfl⟩
theorem d7_7 : decode prog_31_method_8_code 7 = .ok (.aload_n 1, 1) := by decide +kernel
theorem d7_8 : decode prog_31_method_8_code 8 = .ok (.instanceof 25, 3) := by decide +kernel
theorem d7_11 : decode prog_31_method_8_code 11 = .ok (.ifCond .eq 50, 3) := by decide +kernel
theorem d7_61 : decode prog_31_method_8_code 61 = .ok (.iconst 0, 1) := by decide +kernel
theorem d7_62 : decode prog_31_method_8_code 62 = .ok (.ireturn, 1) := by decide +kernel
theorem ef_eq2 (m : MethodId) (a1 : Addr) : entryFrame m #[(.ref a1), .null] 3 = mkF m 0 #[.val (.ref a1), .val .null, .unset] [] := by first | (simp [entryFrame, mkF, argsToLocals, Value.category]; done) | rfl
def Qeq2 (Z : State) (a1 : Addr) (h0 : Heap) (n0 : Nat) (v : Option Value) (h : Heap) (L : List Loc) : Prop := Fr n0 L ∧ h = h0 ∧ (v = some (.int (0 : Int32)))
set_option maxRecDepth 65536 in
set_option maxHeartbeats 40000000 in
theorem rmEq2 (l : Launch) (Z : State) (a0 : Array Value) (hw : ∀ d ∈ tables_1, d.before a0 Z = true) (ws : List Jvm.Cond) (a1 : Addr) (h0 : Heap) (n0 : Nat) (Z0 : n0 ≤ h0.size)  :
    MetFree l (⟨"com/example/multilingual_query_search/multilingualquerysearch/translation/DictdIndexEntry", "equals", "(Ljava/lang/Object;)Z"⟩ : MethodName) (head1 (Jvm.Cond.code (⟨"com/example/multilingual_query_search/multilingualquerysearch/translation/DictdIndexEntry", "equals", "(Ljava/lang/Object;)Z"⟩ : MethodName) prog_31_method_8_code 3 (some .boolean) :: ws) ({ frames := 0, cells := 0, slots := 0, locals := 0 } : Room)) (fun a U => a = #[(.ref a1), .null] ∧ Z.Warmed39 U.vm ∧ U.heap = h0) (fun _ _ _ _ _ => True) (fun _ U o U' => ∃ v L, o = .returned v ∧ Qeq2 Z a1 h0 n0 v U'.heap L ∧ FrameEnd U o U' L ({ frames := 0, cells := 0, slots := 0, locals := 0 } : Room).cells ({ frames := 0, cells := 0, slots := 0, locals := 0 } : Room).slots) := by
  refine MetFree.of_bodySF (plainFor_of_name own_pn_3) hisR ?_
  intro p e s m args below meth c s₁ Bd hml0 hP hK
  obtain ⟨rfl, hZ, hh⟩ := hP
  have hx := Bd.exec
  have hby := Bd.bytes
  have hml : c.maxLocals = 3 := hml0
  have hown : s.vm.findClass "com/example/multilingual_query_search/multilingualquerysearch/translation/DictdIndexEntry" = some m.cls := findClass_of_methodNamed Bd.named
  have hnm := (name_of_methodNamed Bd.named Bd.method).1
  have X0 : Stand p l e ({ frames := 0, cells := 0, slots := 0, locals := 0 } : Room) s m #[(.ref a1), .null] below meth c s₁ [] 0 0 := Stand.of_body Bd
  have e0 : s₁.heap = h0 := by rw [← hh, Bd.state]; rfl
  have N0 := Fr.nil n0
  have pre0 : ∀ t, Steps p.tables e below (s₁.setTop (mkF m 0 #[.val (.ref a1), .val .null, .unset] [])) t → Steps p.tables e below (s₁.setTop (entryFrame m #[(.ref a1), .null] 3)) t := fun t k => castTop (ef_eq2 m a1) k
  obtain ⟨fs, hr, hrun, hended, hW, hsame⟩ := X0.leave (v := (some (.int (0 : Int32)))) (fun h => by rw [Bd.returns] at h; cases h)
  refine ⟨_, _, pre0 _ ?_, hrun, hended, _, _, rfl, ?_, ⟨_, rfl⟩, hW, hsame.mono (by decide) (by decide)⟩
  · show Steps p.tables e below (s₁.setTop (mkF m 0 #[.val (.ref a1), .val .null, .unset] [])) _
    refine XS.aloadN X0.here hx rfl (hb hby d7_0) rfl rfl ?_
    show Steps p.tables e below (s₁.setTop (mkF m 1 #[.val (.ref a1), .val .null, .unset] [(.ref a1)])) _
    refine XS.aloadN X0.here hx rfl (hb hby d7_1) rfl rfl ?_
    show Steps p.tables e below (s₁.setTop (mkF m 2 #[.val (.ref a1), .val .null, .unset] [.null, (.ref a1)])) _
    refine Jvm.RoadKit.acmp (g := (mkF m 2 #[.val (.ref a1), .val .null, .unset] [.null, (.ref a1)])) X0 hx rfl rfl rfl (pc0 := 2) (pc' := 7) (same := false) rfl (hb hby d7_2) rfl (decide_eq_false nofun) (by decide) (by decide) ?_
    show Steps p.tables e below (s₁.setTop (mkF m 7 #[.val (.ref a1), .val .null, .unset] [])) _
    refine XS.aloadN X0.here hx rfl (hb hby d7_7) rfl rfl ?_
    show Steps p.tables e below (s₁.setTop (mkF m 8 #[.val (.ref a1), .val .null, .unset] [.null])) _
    refine X0.instanceofNull hx (g := (mkF m 8 #[.val (.ref a1), .val .null, .unset] [.null])) rfl rfl (hb hby d7_8) _ ?_
    show Steps p.tables e below (s₁.setTop (mkF m 11 #[.val (.ref a1), .val .null, .unset] [(.int (0 : Int32))])) _
    refine XS.ifYes X0.here hx rfl (pc0 := 11) (pc' := 61) rfl (hb hby d7_11) rfl (by decide) (by decide) (by decide) ?_
    show Steps p.tables e below (s₁.setTop (mkF m 61 #[.val (.ref a1), .val .null, .unset] [])) _
    refine XS.iconst X0.here hx rfl (hb hby d7_61) ?_
    show Steps p.tables e below (s₁.setTop (mkF m 62 #[.val (.ref a1), .val .null, .unset] [(.int (0 : Int32))])) _
    exact retN X0 hx (t := .boolean) Bd.returns (by simp) (hb hby d7_62) hr
  · show Qeq2 Z a1 h0 n0 _ s₁.heap _
    rw [e0]
    exact ⟨N0, rfl, rfl⟩
theorem ef_eq3 (m : MethodId) (a1 : Addr) (a2 : Addr) : entryFrame m #[(.ref a1), (.ref a2)] 3 = mkF m 0 #[.val (.ref a1), .val (.ref a2), .unset] [] := by first | (simp [entryFrame, mkF, argsToLocals, Value.category]; done) | rfl
def Qeq3 (Z : State) (a1 : Addr) (a2 : Addr) (h0 : Heap) (n0 : Nat) (v : Option Value) (h : Heap) (L : List Loc) : Prop := Fr n0 L ∧ h = h0 ∧ (v = some (.int (0 : Int32)))
set_option maxRecDepth 65536 in
set_option maxHeartbeats 40000000 in
theorem rmEq3 (l : Launch) (Z : State) (a0 : Array Value) (hw : ∀ d ∈ tables_1, d.before a0 Z = true) (ws : List Jvm.Cond) (a1 : Addr) (a2 : Addr) (h0 : Heap) (n0 : Nat) (Z0 : n0 ≤ h0.size) (hne : a1 ≠ a2) (hE2 : Exa Z h0 a2 "java/lang/String") :
    MetFree l (⟨"com/example/multilingual_query_search/multilingualquerysearch/translation/DictdIndexEntry", "equals", "(Ljava/lang/Object;)Z"⟩ : MethodName) (head1 (Jvm.Cond.code (⟨"com/example/multilingual_query_search/multilingualquerysearch/translation/DictdIndexEntry", "equals", "(Ljava/lang/Object;)Z"⟩ : MethodName) prog_31_method_8_code 3 (some .boolean) :: ws) ({ frames := 0, cells := 0, slots := 0, locals := 0 } : Room)) (fun a U => a = #[(.ref a1), (.ref a2)] ∧ Z.Warmed39 U.vm ∧ U.heap = h0) (fun _ _ _ _ _ => True) (fun _ U o U' => ∃ v L, o = .returned v ∧ Qeq3 Z a1 a2 h0 n0 v U'.heap L ∧ FrameEnd U o U' L ({ frames := 0, cells := 0, slots := 0, locals := 0 } : Room).cells ({ frames := 0, cells := 0, slots := 0, locals := 0 } : Room).slots) := by
  refine MetFree.of_bodySF (plainFor_of_name own_pn_3) hisR ?_
  intro p e s m args below meth c s₁ Bd hml0 hP hK
  obtain ⟨rfl, hZ, hh⟩ := hP
  have hx := Bd.exec
  have hby := Bd.bytes
  have hml : c.maxLocals = 3 := hml0
  have hown : s.vm.findClass "com/example/multilingual_query_search/multilingualquerysearch/translation/DictdIndexEntry" = some m.cls := findClass_of_methodNamed Bd.named
  have hnm := (name_of_methodNamed Bd.named Bd.method).1
  have X0 : Stand p l e ({ frames := 0, cells := 0, slots := 0, locals := 0 } : Room) s m #[(.ref a1), (.ref a2)] below meth c s₁ [] 0 0 := Stand.of_body Bd
  have e0 : s₁.heap = h0 := by rw [← hh, Bd.state]; rfl
  have N0 := Fr.nil n0
  have pre0 : ∀ t, Steps p.tables e below (s₁.setTop (mkF m 0 #[.val (.ref a1), .val (.ref a2), .unset] [])) t → Steps p.tables e below (s₁.setTop (entryFrame m #[(.ref a1), (.ref a2)] 3)) t := fun t k => castTop (ef_eq3 m a1 a2) k
  obtain ⟨T1, X1, e1, st1⟩ := instNo X0 hx hZ hown (own_k hw 50 rfl) e0 hE2 (own_notK (own_k hw 73 rfl) (own_k hw 74 rfl) (own_k hw 28 rfl) (by decide) (by decide)) (g := (mkF m 8 #[.val (.ref a1), .val (.ref a2), .unset] [(.ref a2)])) rfl rfl (hb hby d7_8)
  obtain ⟨fs, hr, hrun, hended, hW, hsame⟩ := X1.leave (v := (some (.int (0 : Int32)))) (fun h => by rw [Bd.returns] at h; cases h)
  refine ⟨_, _, pre0 _ ?_, hrun, hended, _, _, rfl, ?_, ⟨_, rfl⟩, hW, hsame.mono (by decide) (by decide)⟩
  · show Steps p.tables e below (s₁.setTop (mkF m 0 #[.val (.ref a1), .val (.ref a2), .unset] [])) _
    refine XS.aloadN X0.here hx rfl (hb hby d7_0) rfl rfl ?_
    show Steps p.tables e below (s₁.setTop (mkF m 1 #[.val (.ref a1), .val (.ref a2), .unset] [(.ref a1)])) _
    refine XS.aloadN X0.here hx rfl (hb hby d7_1) rfl rfl ?_
    show Steps p.tables e below (s₁.setTop (mkF m 2 #[.val (.ref a1), .val (.ref a2), .unset] [(.ref a2), (.ref a1)])) _
    refine Jvm.RoadKit.acmp (g := (mkF m 2 #[.val (.ref a1), .val (.ref a2), .unset] [(.ref a2), (.ref a1)])) X0 hx rfl rfl rfl (pc0 := 2) (pc' := 7) (same := false) rfl (hb hby d7_2) rfl (decide_eq_false (fun q => hne (Value.ref.inj q))) (by decide) (by decide) ?_
    show Steps p.tables e below (s₁.setTop (mkF m 7 #[.val (.ref a1), .val (.ref a2), .unset] [])) _
    refine XS.aloadN X0.here hx rfl (hb hby d7_7) rfl rfl ?_
    show Steps p.tables e below (s₁.setTop (mkF m 8 #[.val (.ref a1), .val (.ref a2), .unset] [(.ref a2)])) _
    refine st1 _ ?_
    show Steps p.tables e below (T1.setTop (mkF m 11 #[.val (.ref a1), .val (.ref a2), .unset] [(.int (0 : Int32))])) _
    refine XS.ifYes X1.here hx rfl (pc0 := 11) (pc' := 61) rfl (hb hby d7_11) rfl (by decide) (by decide) (by decide) ?_
    show Steps p.tables e below (T1.setTop (mkF m 61 #[.val (.ref a1), .val (.ref a2), .unset] [])) _
    refine XS.iconst X1.here hx rfl (hb hby d7_61) ?_
    show Steps p.tables e below (T1.setTop (mkF m 62 #[.val (.ref a1), .val (.ref a2), .unset] [(.int (0 : Int32))])) _
    exact retN X1 hx (t := .boolean) Bd.returns (by simp) (hb hby d7_62) hr
  · show Qeq3 Z a1 a2 h0 n0 _ T1.heap _
    rw [e1]
    exact ⟨N0, rfl, rfl⟩
theorem d7_14 : decode prog_31_method_8_code 14 = .ok (.aload_n 1, 1) := by decide +kernel
theorem d7_15 : decode prog_31_method_8_code 15 = .ok (.checkcast 25, 3) := by decide +kernel
theorem d7_18 : decode prog_31_method_8_code 18 = .ok (.astore_n 2, 1) := by decide +kernel
theorem d7_19 : decode prog_31_method_8_code 19 = .ok (.aload_n 0, 1) := by decide +kernel
theorem d7_20 : decode prog_31_method_8_code 20 = .ok (.getfield 24, 3) := by decide +kernel
theorem d7_23 : decode prog_31_method_8_code 23 = .ok (.aload_n 2, 1) := by decide +kernel
theorem d7_24 : decode prog_31_method_8_code 24 = .ok (.getfield 24, 3) := by decide +kernel
theorem d7_27 : decode prog_31_method_8_code 27 = .ok (.invokevirtual 93, 3) := by decide +kernel
theorem own_pd_3 : parseMethodDescriptor "(Ljava/lang/Object;)Z" = some ⟨[(.object "java/lang/Object")], some .boolean⟩ := by decide +kernel
theorem d7_30 : decode prog_31_method_8_code 30 = .ok (.ifCond .eq 31, 3) := by decide +kernel
theorem d7_33 : decode prog_31_method_8_code 33 = .ok (.aload_n 0, 1) := by decide +kernel
theorem d7_34 : decode prog_31_method_8_code 34 = .ok (.getfield 29, 3) := by decide +kernel
theorem d7_37 : decode prog_31_method_8_code 37 = .ok (.aload_n 2, 1) := by decide +kernel
theorem d7_38 : decode prog_31_method_8_code 38 = .ok (.getfield 29, 3) := by decide +kernel
theorem d7_41 : decode prog_31_method_8_code 41 = .ok (.lcmp, 1) := by decide +kernel
theorem d7_42 : decode prog_31_method_8_code 42 = .ok (.ifCond .ne 19, 3) := by decide +kernel
theorem d7_45 : decode prog_31_method_8_code 45 = .ok (.aload_n 0, 1) := by decide +kernel
theorem d7_46 : decode prog_31_method_8_code 46 = .ok (.getfield 33, 3) := by decide +kernel
theorem d7_49 : decode prog_31_method_8_code 49 = .ok (.aload_n 2, 1) := by decide +kernel
theorem d7_50 : decode prog_31_method_8_code 50 = .ok (.getfield 33, 3) := by decide +kernel
theorem d7_53 : decode prog_31_method_8_code 53 = .ok (.lcmp, 1) := by decide +kernel
theorem d7_54 : decode prog_31_method_8_code 54 = .ok (.ifCond .ne 7, 3) := by decide +kernel
theorem d7_57 : decode prog_31_method_8_code 57 = .ok (.iconst 1, 1) := by decide +kernel
theorem d7_58 : decode prog_31_method_8_code 58 = .ok (.goto 4, 3) := by decide +kernel
theorem ef_eq4 (m : MethodId) (a1 : Addr) (a2 : Addr) : entryFrame m #[(.ref a1), (.ref a2)] 3 = mkF m 0 #[.val (.ref a1), .val (.ref a2), .unset] [] := by first | (simp [entryFrame, mkF, argsToLocals, Value.category]; done) | rfl
def Qeq4 (Z : State) (a1 : Addr) (a2 : Addr) (G1 : Int32) (s1 : Addr) (t1 : Addr) (k1 : ClassId) (z1 : Int32) (v1 : List Value) (c1 : List Int32) (o1 : Int64) (l1 : Int64) (s2 : Addr) (t2 : Addr) (k2 : ClassId) (z2 : Int32) (v2 : List Value) (c2 : List Int32) (o2 : Int64) (l2 : Int64) (h0 : Heap) (n0 : Nat) (v : Option Value) (h : Heap) (L : List Loc) : Prop := Fr n0 L ∧ h = h0 ∧ ((v = some (.int (1 : Int32)) ∧ c1 = c2 ∧ o1 = o2 ∧ l1 = l2) ∨ (v = some (.int (0 : Int32)) ∧ ¬ (c1 = c2 ∧ o1 = o2 ∧ l1 = l2)))
set_option maxRecDepth 65536 in
set_option maxHeartbeats 40000000 in
theorem rmEq4 (l : Launch) (Z : State) (a0 : Array Value) (hw : ∀ d ∈ tables_1, d.before a0 Z = true) (ws : List Jvm.Cond) (a1 : Addr) (a2 : Addr) (G1 : Int32) (s1 : Addr) (t1 : Addr) (k1 : ClassId) (z1 : Int32) (v1 : List Value) (c1 : List Int32) (o1 : Int64) (l1 : Int64) (s2 : Addr) (t2 : Addr) (k2 : ClassId) (z2 : Int32) (v2 : List Value) (c2 : List Int32) (o2 : Int64) (l2 : Int64) (h0 : Heap) (n0 : Nat) (Z0 : n0 ≤ h0.size) (hS : Sta Z Z.heap "java/lang/String" "COMPACT_STRINGS" "Z" (.int G1)) (hG : ¬ (G1 = (0 : Int32))) (hO : Old Z n0 h0) (hne : a1 ≠ a2) (hE1 : Exa Z h0 a1 "com/example/multilingual_query_search/multilingualquerysearch/translation/DictdIndexEntry") (hh1 : Fld Z h0 a1 "com/example/multilingual_query_search/multilingualquerysearch/translation/DictdIndexEntry" "headword" "Ljava/lang/String;" (.ref s1)) (ho1 : Fld Z h0 a1 "com/example/multilingual_query_search/multilingualquerysearch/translation/DictdIndexEntry" "offset" "J" (.long o1)) (hl1 : Fld Z h0 a1 "com/example/multilingual_query_search/multilingualquerysearch/translation/DictdIndexEntry" "length" "J" (.long l1)) (hs1 : Exa Z h0 s1 "java/lang/String") (hv1 : Fld Z h0 s1 "java/lang/String" "value" "[B" (.ref t1)) (hc1 : Fld Z h0 s1 "java/lang/String" "coder" "B" (.int (0 : Int32))) (ha1 : Arv Z h0 t1 k1 .byte z1 v1 (.int (0 : Int32))) (hq1 : StrChars.Road.CodA c1 0 z1 v1) (hr1 : ∀ c ∈ c1, ¬ c < 0 ∧ ¬ (255 : Int32) < c) (hm1 : c1.length ≤ 4000) (hE2 : Exa Z h0 a2 "com/example/multilingual_query_search/multilingualquerysearch/translation/DictdIndexEntry") (hh2 : Fld Z h0 a2 "com/example/multilingual_query_search/multilingualquerysearch/translation/DictdIndexEntry" "headword" "Ljava/lang/String;" (.ref s2)) (ho2 : Fld Z h0 a2 "com/example/multilingual_query_search/multilingualquerysearch/translation/DictdIndexEntry" "offset" "J" (.long o2)) (hl2 : Fld Z h0 a2 "com/example/multilingual_query_search/multilingualquerysearch/translation/DictdIndexEntry" "length" "J" (.long l2)) (hs2 : Exa Z h0 s2 "java/lang/String") (hv2 : Fld Z h0 s2 "java/lang/String" "value" "[B" (.ref t2)) (hc2 : Fld Z h0 s2 "java/lang/String" "coder" "B" (.int (0 : Int32))) (ha2 : Arv Z h0 t2 k2 .byte z2 v2 (.int (0 : Int32))) (hq2 : StrChars.Road.CodA c2 0 z2 v2) (hr2 : ∀ c ∈ c2, ¬ c < 0 ∧ ¬ (255 : Int32) < c) (hm2 : c2.length ≤ 4000) :
    MetFree l (⟨"com/example/multilingual_query_search/multilingualquerysearch/translation/DictdIndexEntry", "equals", "(Ljava/lang/Object;)Z"⟩ : MethodName) (head1 (Jvm.Cond.code (⟨"com/example/multilingual_query_search/multilingualquerysearch/translation/DictdIndexEntry", "equals", "(Ljava/lang/Object;)Z"⟩ : MethodName) prog_31_method_8_code 3 (some .boolean) :: ws) ({ frames := 2, cells := 0, slots := 0, locals := 28 } : Room)) (fun a U => a = #[(.ref a1), (.ref a2)] ∧ Z.Warmed39 U.vm ∧ U.heap = h0) (fun _ _ _ _ _ => True) (fun _ U o U' => ∃ v L, o = .returned v ∧ Qeq4 Z a1 a2 G1 s1 t1 k1 z1 v1 c1 o1 l1 s2 t2 k2 z2 v2 c2 o2 l2 h0 n0 v U'.heap L ∧ FrameEnd U o U' L ({ frames := 2, cells := 0, slots := 0, locals := 28 } : Room).cells ({ frames := 2, cells := 0, slots := 0, locals := 28 } : Room).slots) := by
  refine MetFree.of_bodySF (plainFor_of_name own_pn_3) hisR ?_
  intro p e s m args below meth c s₁ Bd hml0 hP hK
  obtain ⟨rfl, hZ, hh⟩ := hP
  have hx := Bd.exec
  have hby := Bd.bytes
  have hml : c.maxLocals = 3 := hml0
  have hown : s.vm.findClass "com/example/multilingual_query_search/multilingualquerysearch/translation/DictdIndexEntry" = some m.cls := findClass_of_methodNamed Bd.named
  have hnm := (name_of_methodNamed Bd.named Bd.method).1
  have X0 : Stand p l e ({ frames := 2, cells := 0, slots := 0, locals := 28 } : Room) s m #[(.ref a1), (.ref a2)] below meth c s₁ [] 0 0 := Stand.of_body Bd
  have e0 : s₁.heap = h0 := by rw [← hh, Bd.state]; rfl
  have N0 := Fr.nil n0
  have pre0 : ∀ t, Steps p.tables e below (s₁.setTop (mkF m 0 #[.val (.ref a1), .val (.ref a2), .unset] [])) t → Steps p.tables e below (s₁.setTop (entryFrame m #[(.ref a1), (.ref a2)] 3)) t := fun t k => castTop (ef_eq4 m a1 a2) k
  obtain ⟨T1, X1, e1, st1⟩ := instY X0 hx hZ hown (own_k hw 50 rfl) e0 (Ins.self hE2) (g := (mkF m 8 #[.val (.ref a1), .val (.ref a2), .unset] [(.ref a2)])) rfl rfl (hb hby d7_8)
  obtain ⟨T2, X2, e2, st2⟩ := castY X1 hx hZ hown (own_k hw 50 rfl) e1 (Ins.self hE2) (g := (mkF m 15 #[.val (.ref a1), .val (.ref a2), .unset] [(.ref a2)])) rfl rfl (hb hby d7_15)
  obtain ⟨T3, X3, e3, st3⟩ := getF X2 hx hZ hown (host := "") (Or.inl (own_k hw 39 rfl)) Via.refl e2 hh1 (g := (mkF m 20 #[.val (.ref a1), .val (.ref a2), .val (.ref a2)] [(.ref a1)])) rfl rfl (hb hby d7_20)
  obtain ⟨T4, X4, e4, st4⟩ := getF X3 hx hZ hown (host := "") (Or.inl (own_k hw 39 rfl)) Via.refl e3 hh2 (g := (mkF m 24 #[.val (.ref a1), .val (.ref a2), .val (.ref a2)] [(.ref a2), (.ref s1)])) rfl rfl (hb hby d7_24)
  have heq5 : ∀ d ∈ StrChars.Road.wordsEq, d.before a0 Z = true := fun d hd => hw d ((by decide +kernel : ∀ d ∈ StrChars.Road.wordsEq, d ∈ tables_1) d hd)
  obtain ⟨cq5, kq5, q5a, q5b, q5c⟩ := isOf hZ e4 hs1
  obtain ⟨_, _, ⟨T5, L5, k5, n5⟩, -, X5, ⟨Lc5, hQ5, l5, y5, z5⟩, st5⟩ := X4.virtualBack hx (y := (⟨"java/lang/String", "equals", "(Ljava/lang/Object;)Z"⟩ : MethodName)) (z := (⟨"java/lang/String", "equals", "(Ljava/lang/Object;)Z"⟩ : MethodName)) hown (mvT hZ (own_k hw 52 rfl)) (mvT hZ (own_k hw 53 rfl)) (notFace_of_selects (args := #[]) (mvT hZ (own_k hw 55 rfl))) (mvT hZ (own_k hw 55 rfl)) (mvT hZ (own_k hw 54 rfl)) (by decide) (StrChars.Road.eqW (W := 0) hZ heq5 (kI := 4) (own_k hw 6 rfl) hs1 hv1 hc1 ha1 hq1 (up _ hr1) hm1 hs2 hv2 hc2 ha2 hq2 (up _ hr2) hm2 (hS.ext hO.2) hG (by decide) (by decide)) q5a q5c (g := (mkF m 27 #[.val (.ref a1), .val (.ref a2), .val (.ref a2)] [(.ref s2), (.ref s1)])) rfl (by rw [hml]; rfl) (Steps.refl _) (argsL := [(.ref s2)]) (rest := []) (lenOf own_pd_3 rfl) rfl (by show 2 * 0 + _ ≤ _; exact Nat.le_of_eq rfl) (hb hby d7_27) (fun _ _ => ⟨rfl, e4, (by decide : 0 + 0 ≤ _), (by decide : 0 + 0 ≤ _)⟩)
  dsimp only [Pt.U, Pt.locs, Pt.cells, Pt.slots] at X5 l5 y5 z5 st5 hQ5
  subst l5 y5 z5
  obtain ⟨hv5, rfl, eh5⟩ := hQ5
  have Nq5 : Fr n0 ([] : List Loc) := Fr.nil n0
  have N5 := Fr.app N0 Nq5
  have pre6 : ∀ t, Steps p.tables e below (T4.setTop (mkF m 27 #[.val (.ref a1), .val (.ref a2), .val (.ref a2)] [(.ref s2), (.ref s1)])) t → Steps p.tables e below (s₁.setTop (entryFrame m #[(.ref a1), (.ref a2)] 3)) t := fun t kt => pre0 t (by
    show Steps p.tables e below (s₁.setTop (mkF m 0 #[.val (.ref a1), .val (.ref a2), .unset] [])) _
    refine XS.aloadN X0.here hx rfl (hb hby d7_0) rfl rfl ?_
    show Steps p.tables e below (s₁.setTop (mkF m 1 #[.val (.ref a1), .val (.ref a2), .unset] [(.ref a1)])) _
    refine XS.aloadN X0.here hx rfl (hb hby d7_1) rfl rfl ?_
    show Steps p.tables e below (s₁.setTop (mkF m 2 #[.val (.ref a1), .val (.ref a2), .unset] [(.ref a2), (.ref a1)])) _
    refine Jvm.RoadKit.acmp (g := (mkF m 2 #[.val (.ref a1), .val (.ref a2), .unset] [(.ref a2), (.ref a1)])) X0 hx rfl rfl rfl (pc0 := 2) (pc' := 7) (same := false) rfl (hb hby d7_2) rfl (decide_eq_false (fun q => hne (Value.ref.inj q))) (by decide) (by decide) ?_
    show Steps p.tables e below (s₁.setTop (mkF m 7 #[.val (.ref a1), .val (.ref a2), .unset] [])) _
    refine XS.aloadN X0.here hx rfl (hb hby d7_7) rfl rfl ?_
    show Steps p.tables e below (s₁.setTop (mkF m 8 #[.val (.ref a1), .val (.ref a2), .unset] [(.ref a2)])) _
    refine st1 _ ?_
    show Steps p.tables e below (T1.setTop (mkF m 11 #[.val (.ref a1), .val (.ref a2), .unset] [(.int (1 : Int32))])) _
    refine XS.ifNo X1.here hx rfl (hb hby d7_11) rfl (by decide) ?_
    show Steps p.tables e below (T1.setTop (mkF m 14 #[.val (.ref a1), .val (.ref a2), .unset] [])) _
    refine XS.aloadN X1.here hx rfl (hb hby d7_14) rfl rfl ?_
    show Steps p.tables e below (T1.setTop (mkF m 15 #[.val (.ref a1), .val (.ref a2), .unset] [(.ref a2)])) _
    refine st2 _ ?_
    show Steps p.tables e below (T2.setTop (mkF m 18 #[.val (.ref a1), .val (.ref a2), .unset] [(.ref a2)])) _
    refine XS.astoreN X2.here hx rfl (hb hby d7_18) rfl rfl (l' := #[.val (.ref a1), .val (.ref a2), .val (.ref a2)]) rfl ?_
    show Steps p.tables e below (T2.setTop (mkF m 19 #[.val (.ref a1), .val (.ref a2), .val (.ref a2)] [])) _
    refine XS.aloadN X2.here hx rfl (hb hby d7_19) rfl rfl ?_
    show Steps p.tables e below (T2.setTop (mkF m 20 #[.val (.ref a1), .val (.ref a2), .val (.ref a2)] [(.ref a1)])) _
    refine st3 _ ?_
    show Steps p.tables e below (T3.setTop (mkF m 23 #[.val (.ref a1), .val (.ref a2), .val (.ref a2)] [(.ref s1)])) _
    refine XS.aloadN X3.here hx rfl (hb hby d7_23) rfl rfl ?_
    show Steps p.tables e below (T3.setTop (mkF m 24 #[.val (.ref a1), .val (.ref a2), .val (.ref a2)] [(.ref a2), (.ref s1)])) _
    refine st4 _ ?_
    exact kt)
  rcases hv5 with ⟨hv5, hd5_0⟩ | ⟨hv5, hd5_0⟩
  · subst hv5
    obtain ⟨T7, X7, e7, st7⟩ := getF X5 hx hZ hown (host := "") (Or.inl (own_k hw 41 rfl)) Via.refl eh5 ho1 (g := (mkF m 34 #[.val (.ref a1), .val (.ref a2), .val (.ref a2)] [(.ref a1)])) rfl rfl (hb hby d7_34)
    obtain ⟨T8, X8, e8, st8⟩ := getF X7 hx hZ hown (host := "") (Or.inl (own_k hw 41 rfl)) Via.refl e7 ho2 (g := (mkF m 38 #[.val (.ref a1), .val (.ref a2), .val (.ref a2)] [(.ref a2), (.long o1)])) rfl rfl (hb hby d7_38)
    have pre9 : ∀ t, Steps p.tables e below (T8.setTop (mkF m 42 #[.val (.ref a1), .val (.ref a2), .val (.ref a2)] [(.int (lcmpW o1 o2))])) t → Steps p.tables e below (s₁.setTop (entryFrame m #[(.ref a1), (.ref a2)] 3)) t := fun t kt => pre6 t (by
      show Steps p.tables e below (T4.setTop (mkF m 27 #[.val (.ref a1), .val (.ref a2), .val (.ref a2)] [(.ref s2), (.ref s1)])) _
      refine st5.trans ?_
      show Steps p.tables e below (T5.setTop (mkF m 30 #[.val (.ref a1), .val (.ref a2), .val (.ref a2)] [(.int (1 : Int32))])) _
      refine XS.ifNo X5.here hx rfl (hb hby d7_30) rfl (by decide) ?_
      show Steps p.tables e below (T5.setTop (mkF m 33 #[.val (.ref a1), .val (.ref a2), .val (.ref a2)] [])) _
      refine XS.aloadN X5.here hx rfl (hb hby d7_33) rfl rfl ?_
      show Steps p.tables e below (T5.setTop (mkF m 34 #[.val (.ref a1), .val (.ref a2), .val (.ref a2)] [(.ref a1)])) _
      refine st7 _ ?_
      show Steps p.tables e below (T7.setTop (mkF m 37 #[.val (.ref a1), .val (.ref a2), .val (.ref a2)] [(.long o1)])) _
      refine XS.aloadN X7.here hx rfl (hb hby d7_37) rfl rfl ?_
      show Steps p.tables e below (T7.setTop (mkF m 38 #[.val (.ref a1), .val (.ref a2), .val (.ref a2)] [(.ref a2), (.long o1)])) _
      refine st8 _ ?_
      show Steps p.tables e below (T8.setTop (mkF m 41 #[.val (.ref a1), .val (.ref a2), .val (.ref a2)] [(.long o2), (.long o1)])) _
      refine XS.lcmp X8.here hx rfl (hb hby d7_41) rfl ?_
      exact kt)
    by_cases hcx10 : (lcmpW o1 o2) = (0 : Int32)
    · skip
      obtain ⟨T11, X11, e11, st11⟩ := getF X8 hx hZ hown (host := "") (Or.inl (own_k hw 43 rfl)) Via.refl e8 hl1 (g := (mkF m 46 #[.val (.ref a1), .val (.ref a2), .val (.ref a2)] [(.ref a1)])) rfl rfl (hb hby d7_46)
      obtain ⟨T12, X12, e12, st12⟩ := getF X11 hx hZ hown (host := "") (Or.inl (own_k hw 43 rfl)) Via.refl e11 hl2 (g := (mkF m 50 #[.val (.ref a1), .val (.ref a2), .val (.ref a2)] [(.ref a2), (.long l1)])) rfl rfl (hb hby d7_50)
      have pre13 : ∀ t, Steps p.tables e below (T12.setTop (mkF m 54 #[.val (.ref a1), .val (.ref a2), .val (.ref a2)] [(.int (lcmpW l1 l2))])) t → Steps p.tables e below (s₁.setTop (entryFrame m #[(.ref a1), (.ref a2)] 3)) t := fun t kt => pre9 t (by
        show Steps p.tables e below (T8.setTop (mkF m 42 #[.val (.ref a1), .val (.ref a2), .val (.ref a2)] [(.int (lcmpW o1 o2))])) _
        refine XS.ifNo X8.here hx rfl (hb hby d7_42) rfl ((if0 _ _).trans (teq hcx10).2) ?_
        show Steps p.tables e below (T8.setTop (mkF m 45 #[.val (.ref a1), .val (.ref a2), .val (.ref a2)] [])) _
        refine XS.aloadN X8.here hx rfl (hb hby d7_45) rfl rfl ?_
        show Steps p.tables e below (T8.setTop (mkF m 46 #[.val (.ref a1), .val (.ref a2), .val (.ref a2)] [(.ref a1)])) _
        refine st11 _ ?_
        show Steps p.tables e below (T11.setTop (mkF m 49 #[.val (.ref a1), .val (.ref a2), .val (.ref a2)] [(.long l1)])) _
        refine XS.aloadN X11.here hx rfl (hb hby d7_49) rfl rfl ?_
        show Steps p.tables e below (T11.setTop (mkF m 50 #[.val (.ref a1), .val (.ref a2), .val (.ref a2)] [(.ref a2), (.long l1)])) _
        refine st12 _ ?_
        show Steps p.tables e below (T12.setTop (mkF m 53 #[.val (.ref a1), .val (.ref a2), .val (.ref a2)] [(.long l2), (.long l1)])) _
        refine XS.lcmp X12.here hx rfl (hb hby d7_53) rfl ?_
        exact kt)
      by_cases hcx14 : (lcmpW l1 l2) = (0 : Int32)
      · skip
        obtain ⟨fs, hr, hrun, hended, hW, hsame⟩ := X12.leave (v := (some (.int (1 : Int32)))) (fun h => by rw [Bd.returns] at h; cases h)
        refine ⟨_, _, pre13 _ ?_, hrun, hended, _, _, rfl, ?_, ⟨_, rfl⟩, hW, hsame.mono (by decide) (by decide)⟩
        · show Steps p.tables e below (T12.setTop (mkF m 54 #[.val (.ref a1), .val (.ref a2), .val (.ref a2)] [(.int (lcmpW l1 l2))])) _
          refine XS.ifNo X12.here hx rfl (hb hby d7_54) rfl ((if0 _ _).trans (teq hcx14).2) ?_
          show Steps p.tables e below (T12.setTop (mkF m 57 #[.val (.ref a1), .val (.ref a2), .val (.ref a2)] [])) _
          refine XS.iconst X12.here hx rfl (hb hby d7_57) ?_
          show Steps p.tables e below (T12.setTop (mkF m 58 #[.val (.ref a1), .val (.ref a2), .val (.ref a2)] [(.int (1 : Int32))])) _
          refine XS.goto X12.here hx rfl (pc0 := 58) (pc' := 62) rfl (hb hby d7_58) (by decide) (by decide) ?_
          show Steps p.tables e below (T12.setTop (mkF m 62 #[.val (.ref a1), .val (.ref a2), .val (.ref a2)] [(.int (1 : Int32))])) _
          exact retN X12 hx (t := .boolean) Bd.returns (by simp) (hb hby d7_62) hr
        · show Qeq4 Z a1 a2 G1 s1 t1 k1 z1 v1 c1 o1 l1 s2 t2 k2 z2 v2 c2 o2 l2 h0 n0 _ T12.heap _
          rw [e12]
          exact ⟨N5, rfl, (Or.inl ⟨rfl, hd5_0, (lw_eq _ _).mp hcx10, (lw_eq _ _).mp hcx14⟩)⟩
      · skip
        obtain ⟨fs, hr, hrun, hended, hW, hsame⟩ := X12.leave (v := (some (.int (0 : Int32)))) (fun h => by rw [Bd.returns] at h; cases h)
        refine ⟨_, _, pre13 _ ?_, hrun, hended, _, _, rfl, ?_, ⟨_, rfl⟩, hW, hsame.mono (by decide) (by decide)⟩
        · show Steps p.tables e below (T12.setTop (mkF m 54 #[.val (.ref a1), .val (.ref a2), .val (.ref a2)] [(.int (lcmpW l1 l2))])) _
          refine XS.ifYes X12.here hx rfl (pc0 := 54) (pc' := 61) rfl (hb hby d7_54) rfl ((if0 _ _).trans (feq hcx14).2) (by decide) (by decide) ?_
          show Steps p.tables e below (T12.setTop (mkF m 61 #[.val (.ref a1), .val (.ref a2), .val (.ref a2)] [])) _
          refine XS.iconst X12.here hx rfl (hb hby d7_61) ?_
          show Steps p.tables e below (T12.setTop (mkF m 62 #[.val (.ref a1), .val (.ref a2), .val (.ref a2)] [(.int (0 : Int32))])) _
          exact retN X12 hx (t := .boolean) Bd.returns (by simp) (hb hby d7_62) hr
        · show Qeq4 Z a1 a2 G1 s1 t1 k1 z1 v1 c1 o1 l1 s2 t2 k2 z2 v2 c2 o2 l2 h0 n0 _ T12.heap _
          rw [e12]
          exact ⟨N5, rfl, (Or.inr ⟨rfl, fun q => hcx14 ((lw_eq _ _).mpr q.2.2)⟩)⟩
    · skip
      obtain ⟨fs, hr, hrun, hended, hW, hsame⟩ := X8.leave (v := (some (.int (0 : Int32)))) (fun h => by rw [Bd.returns] at h; cases h)
      refine ⟨_, _, pre9 _ ?_, hrun, hended, _, _, rfl, ?_, ⟨_, rfl⟩, hW, hsame.mono (by decide) (by decide)⟩
      · show Steps p.tables e below (T8.setTop (mkF m 42 #[.val (.ref a1), .val (.ref a2), .val (.ref a2)] [(.int (lcmpW o1 o2))])) _
        refine XS.ifYes X8.here hx rfl (pc0 := 42) (pc' := 61) rfl (hb hby d7_42) rfl ((if0 _ _).trans (feq hcx10).2) (by decide) (by decide) ?_
        show Steps p.tables e below (T8.setTop (mkF m 61 #[.val (.ref a1), .val (.ref a2), .val (.ref a2)] [])) _
        refine XS.iconst X8.here hx rfl (hb hby d7_61) ?_
        show Steps p.tables e below (T8.setTop (mkF m 62 #[.val (.ref a1), .val (.ref a2), .val (.ref a2)] [(.int (0 : Int32))])) _
        exact retN X8 hx (t := .boolean) Bd.returns (by simp) (hb hby d7_62) hr
      · show Qeq4 Z a1 a2 G1 s1 t1 k1 z1 v1 c1 o1 l1 s2 t2 k2 z2 v2 c2 o2 l2 h0 n0 _ T8.heap _
        rw [e8]
        exact ⟨N5, rfl, (Or.inr ⟨rfl, fun q => hcx10 ((lw_eq _ _).mpr q.2.1)⟩)⟩
  · subst hv5
    obtain ⟨fs, hr, hrun, hended, hW, hsame⟩ := X5.leave (v := (some (.int (0 : Int32)))) (fun h => by rw [Bd.returns] at h; cases h)
    refine ⟨_, _, pre6 _ ?_, hrun, hended, _, _, rfl, ?_, ⟨_, rfl⟩, hW, hsame.mono (by decide) (by decide)⟩
    · show Steps p.tables e below (T4.setTop (mkF m 27 #[.val (.ref a1), .val (.ref a2), .val (.ref a2)] [(.ref s2), (.ref s1)])) _
      refine st5.trans ?_
      show Steps p.tables e below (T5.setTop (mkF m 30 #[.val (.ref a1), .val (.ref a2), .val (.ref a2)] [(.int (0 : Int32))])) _
      refine XS.ifYes X5.here hx rfl (pc0 := 30) (pc' := 61) rfl (hb hby d7_30) rfl (by decide) (by decide) (by decide) ?_
      show Steps p.tables e below (T5.setTop (mkF m 61 #[.val (.ref a1), .val (.ref a2), .val (.ref a2)] [])) _
      refine XS.iconst X5.here hx rfl (hb hby d7_61) ?_
      show Steps p.tables e below (T5.setTop (mkF m 62 #[.val (.ref a1), .val (.ref a2), .val (.ref a2)] [(.int (0 : Int32))])) _
      exact retN X5 hx (t := .boolean) Bd.returns (by simp) (hb hby d7_62) hr
    · show Qeq4 Z a1 a2 G1 s1 t1 k1 z1 v1 c1 o1 l1 s2 t2 k2 z2 v2 c2 o2 l2 h0 n0 _ T5.heap _
      rw [eh5]
      exact ⟨N5, rfl, (Or.inr ⟨rfl, fun q => hd5_0 q.1⟩)⟩
theorem own_pd_4 : parseMethodDescriptor "(ICC)Ljava/lang/String;" = some ⟨[.int, .char, .char], some (.object "java/lang/String")⟩ := by decide +kernel
theorem own_pd_5 : parseMethodDescriptor "(Ljava/lang/String;JJ)V" = some ⟨[(.object "java/lang/String"), .long, .long], none⟩ := by decide +kernel
theorem ef_0 (m : MethodId) (p0 : Int32) (pp1 : Int32) (jo1 : Int64) (jo2 : Int64) (jl1 : Int64) (jl2 : Int64) : entryFrame m #[(.int p0), (.int pp1), (.long jo1), (.long jo2), (.long jl1), (.long jl2)] maxLocals = mkF m 0 #[.val (.int p0), .val (.int pp1), .val (.long jo1), .second, .val (.long jo2), .second, .val (.long jl1), .second, .val (.long jl2), .second, .unset, .unset, .unset, .unset, .unset, .unset, .unset, .unset, .unset, .unset, .unset, .unset, .unset, .unset, .unset, .unset, .unset, .unset, .unset, .unset, .unset] [] := by first | (simp [entryFrame, mkF, argsToLocals, Value.category, maxLocals]; done) | rfl
def Q0 (Z : State) (p0 : Int32) (pp1 : Int32) (jo1 : Int64) (jo2 : Int64) (jl1 : Int64) (jl2 : Int64) (G1 : Int32) (h0 : Heap) (n0 : Nat) (v : Option Value) (h : Heap) (L : List Loc) : Prop := Fr n0 L ∧ v = some (.int (1 : Int32))
set_option maxRecDepth 65536 in
set_option maxHeartbeats 40000000 in
theorem rm0 (l : Launch) (Z : State) (a0 : Array Value) (hw : ∀ d ∈ tables_1, d.before a0 Z = true) (ws : List Jvm.Cond) (p0 : Int32) (pp1 : Int32) (jo1 : Int64) (jo2 : Int64) (jl1 : Int64) (jl2 : Int64) (G1 : Int32) (h0 : Heap) (n0 : Nat) (Z0 : n0 ≤ h0.size) (hS : Sta Z Z.heap "java/lang/String" "COMPACT_STRINGS" "Z" (.int G1)) (hG : ¬ (G1 = (0 : Int32))) (hO : Old Z n0 h0) :
    MetFree l x (head1 (Jvm.Cond.code x code maxLocals ret :: ws) room_1) (fun a U => a = #[(.int p0), (.int pp1), (.long jo1), (.long jo2), (.long jl1), (.long jl2)] ∧ Z.Warmed39 U.vm ∧ U.heap = h0 ∧ CHv Z own_EL U.vm h0 ∧ ∀ x ∈ ([] : List Addr), Safe Z own_EL U.vm h0 x) (fun _ _ _ _ _ => True) (fun _ U o U' => ∃ v L, o = .returned v ∧ Q0 Z p0 pp1 jo1 jo2 jl1 jl2 G1 h0 n0 v U'.heap L ∧ CHr Z own_EL U.vm U.heap U'.vm U'.heap ∧ ReturnedEndW U o U' L 32 2176) := by
  refine MetFree.of_bodySF (plainFor_of_name own_pn_1) hisR ?_
  intro p e s m args below meth c s₁ Bd hml0 hP hK
  obtain ⟨rfl, hZ, hh, hCH, hQs⟩ := hP
  have hx := Bd.exec
  have hby := Bd.bytes
  have hml : c.maxLocals = 31 := hml0
  have hown : s.vm.findClass "com/example/multilingual_query_search/multilingualquerysearch/translation/DictdIndexEntryEqualsPinLaw" = some m.cls := findClass_of_methodNamed Bd.named
  have hnm := (name_of_methodNamed Bd.named Bd.method).1
  have X0 : Stand p l e room_1 (s.setVm s.vm) m #[(.int p0), (.int pp1), (.long jo1), (.long jo2), (.long jl1), (.long jl2)] below meth c s₁ [] 0 0 := Stand.of_body Bd
  have e0 : s₁.heap = h0 := by rw [← hh, Bd.state]; rfl
  have N0 := Fr.nil n0
  have pre0 : ∀ t, Steps p.tables e below (s₁.setTop (mkF m 0 #[.val (.int p0), .val (.int pp1), .val (.long jo1), .second, .val (.long jo2), .second, .val (.long jl1), .second, .val (.long jl2), .second, .unset, .unset, .unset, .unset, .unset, .unset, .unset, .unset, .unset, .unset, .unset, .unset, .unset, .unset, .unset, .unset, .unset, .unset, .unset, .unset, .unset] [])) t → Steps p.tables e below (s₁.setTop (entryFrame m #[(.int p0), (.int pp1), (.long jo1), (.long jo2), (.long jl1), (.long jl2)] maxLocals)) t := fun t k => castTop (ef_0 m p0 pp1 jo1 jo2 jl1 jl2) k
  have hZ0 := hZ
  have hown0 := hown
  have hEL : EW Z a0 own_EL := (EW.cons (own_k hw 19 rfl) (by decide) EW.nil)
  have hwS : ∀ a ∈ Bundle.stringAtoms, a.before a0 Z = true := fun d hd => hw d ((by decide +kernel : ∀ d ∈ Bundle.stringAtoms, d ∈ tables_1) d hd)
  have hS0 : s.Since s.vm h0.size := (State.WarmedH.refl s).since _
  have Y0 : h0.size ≤ h0.size := Nat.le_refl _
  have R0 : CHr Z own_EL s.vm h0 s.vm h0 := CHr.refl hCH
  have pre1 : ∀ t, Steps p.tables e below (s₁.setTop (mkF m 29 #[.val (.int p0), .val (.int pp1), .val (.long jo1), .second, .val (.long jo2), .second, .val (.long jl1), .second, .val (.long jl2), .second, .val (.int ((((p0.toUInt32 >>> ((16 : Int32) &&& 31).toUInt32).toInt32) &&& (3 : Int32)) % (3 : Int32))), .val (.int ((p0 &&& (255 : Int32)).toUInt32.toUInt16.toUInt32.toInt32)), .val (.int ((((p0.toUInt32 >>> ((8 : Int32) &&& 31).toUInt32).toInt32) &&& (255 : Int32)).toUInt32.toUInt16.toUInt32.toInt32)), .unset, .unset, .unset, .unset, .unset, .unset, .unset, .unset, .unset, .unset, .unset, .unset, .unset, .unset, .unset, .unset, .unset, .unset] [])) t → Steps p.tables e below (s₁.setTop (entryFrame m #[(.int p0), (.int pp1), (.long jo1), (.long jo2), (.long jl1), (.long jl2)] maxLocals)) t := fun t kt => pre0 t (by
    show Steps p.tables e below (s₁.setTop (mkF m 0 #[.val (.int p0), .val (.int pp1), .val (.long jo1), .second, .val (.long jo2), .second, .val (.long jl1), .second, .val (.long jl2), .second, .unset, .unset, .unset, .unset, .unset, .unset, .unset, .unset, .unset, .unset, .unset, .unset, .unset, .unset, .unset, .unset, .unset, .unset, .unset, .unset, .unset] [])) _
    refine XS.iloadN X0.here hx rfl (hb hby at_0) rfl ?_
    show Steps p.tables e below (s₁.setTop (mkF m 1 #[.val (.int p0), .val (.int pp1), .val (.long jo1), .second, .val (.long jo2), .second, .val (.long jl1), .second, .val (.long jl2), .second, .unset, .unset, .unset, .unset, .unset, .unset, .unset, .unset, .unset, .unset, .unset, .unset, .unset, .unset, .unset, .unset, .unset, .unset, .unset, .unset, .unset] [(.int p0)])) _
    refine XS.bipush X0.here hx rfl (hb hby at_1) ?_
    show Steps p.tables e below (s₁.setTop (mkF m 3 #[.val (.int p0), .val (.int pp1), .val (.long jo1), .second, .val (.long jo2), .second, .val (.long jl1), .second, .val (.long jl2), .second, .unset, .unset, .unset, .unset, .unset, .unset, .unset, .unset, .unset, .unset, .unset, .unset, .unset, .unset, .unset, .unset, .unset, .unset, .unset, .unset, .unset] [(.int (16 : Int32)), (.int p0)])) _
    refine XS.iushr X0.here hx rfl (hb hby at_3) rfl ?_
    show Steps p.tables e below (s₁.setTop (mkF m 4 #[.val (.int p0), .val (.int pp1), .val (.long jo1), .second, .val (.long jo2), .second, .val (.long jl1), .second, .val (.long jl2), .second, .unset, .unset, .unset, .unset, .unset, .unset, .unset, .unset, .unset, .unset, .unset, .unset, .unset, .unset, .unset, .unset, .unset, .unset, .unset, .unset, .unset] [(.int ((p0.toUInt32 >>> ((16 : Int32) &&& 31).toUInt32).toInt32))])) _
    refine XS.iconst X0.here hx rfl (hb hby at_4) ?_
    show Steps p.tables e below (s₁.setTop (mkF m 5 #[.val (.int p0), .val (.int pp1), .val (.long jo1), .second, .val (.long jo2), .second, .val (.long jl1), .second, .val (.long jl2), .second, .unset, .unset, .unset, .unset, .unset, .unset, .unset, .unset, .unset, .unset, .unset, .unset, .unset, .unset, .unset, .unset, .unset, .unset, .unset, .unset, .unset] [(.int (3 : Int32)), (.int ((p0.toUInt32 >>> ((16 : Int32) &&& 31).toUInt32).toInt32))])) _
    refine XS.iand X0.here hx rfl (hb hby at_5) rfl ?_
    show Steps p.tables e below (s₁.setTop (mkF m 6 #[.val (.int p0), .val (.int pp1), .val (.long jo1), .second, .val (.long jo2), .second, .val (.long jl1), .second, .val (.long jl2), .second, .unset, .unset, .unset, .unset, .unset, .unset, .unset, .unset, .unset, .unset, .unset, .unset, .unset, .unset, .unset, .unset, .unset, .unset, .unset, .unset, .unset] [(.int (((p0.toUInt32 >>> ((16 : Int32) &&& 31).toUInt32).toInt32) &&& (3 : Int32)))])) _
    refine XS.iconst X0.here hx rfl (hb hby at_6) ?_
    show Steps p.tables e below (s₁.setTop (mkF m 7 #[.val (.int p0), .val (.int pp1), .val (.long jo1), .second, .val (.long jo2), .second, .val (.long jl1), .second, .val (.long jl2), .second, .unset, .unset, .unset, .unset, .unset, .unset, .unset, .unset, .unset, .unset, .unset, .unset, .unset, .unset, .unset, .unset, .unset, .unset, .unset, .unset, .unset] [(.int (3 : Int32)), (.int (((p0.toUInt32 >>> ((16 : Int32) &&& 31).toUInt32).toInt32) &&& (3 : Int32)))])) _
    refine iremM X0 hx rfl (hb hby at_7) rfl (by decide) ?_
    show Steps p.tables e below (s₁.setTop (mkF m 8 #[.val (.int p0), .val (.int pp1), .val (.long jo1), .second, .val (.long jo2), .second, .val (.long jl1), .second, .val (.long jl2), .second, .unset, .unset, .unset, .unset, .unset, .unset, .unset, .unset, .unset, .unset, .unset, .unset, .unset, .unset, .unset, .unset, .unset, .unset, .unset, .unset, .unset] [(.int ((((p0.toUInt32 >>> ((16 : Int32) &&& 31).toUInt32).toInt32) &&& (3 : Int32)) % (3 : Int32)))])) _
    refine XS.istore X0.here hx rfl (hb hby at_8) rfl (l' := #[.val (.int p0), .val (.int pp1), .val (.long jo1), .second, .val (.long jo2), .second, .val (.long jl1), .second, .val (.long jl2), .second, .val (.int ((((p0.toUInt32 >>> ((16 : Int32) &&& 31).toUInt32).toInt32) &&& (3 : Int32)) % (3 : Int32))), .unset, .unset, .unset, .unset, .unset, .unset, .unset, .unset, .unset, .unset, .unset, .unset, .unset, .unset, .unset, .unset, .unset, .unset, .unset, .unset]) rfl ?_
    show Steps p.tables e below (s₁.setTop (mkF m 10 #[.val (.int p0), .val (.int pp1), .val (.long jo1), .second, .val (.long jo2), .second, .val (.long jl1), .second, .val (.long jl2), .second, .val (.int ((((p0.toUInt32 >>> ((16 : Int32) &&& 31).toUInt32).toInt32) &&& (3 : Int32)) % (3 : Int32))), .unset, .unset, .unset, .unset, .unset, .unset, .unset, .unset, .unset, .unset, .unset, .unset, .unset, .unset, .unset, .unset, .unset, .unset, .unset, .unset] [])) _
    refine XS.iloadN X0.here hx rfl (hb hby at_10) rfl ?_
    show Steps p.tables e below (s₁.setTop (mkF m 11 #[.val (.int p0), .val (.int pp1), .val (.long jo1), .second, .val (.long jo2), .second, .val (.long jl1), .second, .val (.long jl2), .second, .val (.int ((((p0.toUInt32 >>> ((16 : Int32) &&& 31).toUInt32).toInt32) &&& (3 : Int32)) % (3 : Int32))), .unset, .unset, .unset, .unset, .unset, .unset, .unset, .unset, .unset, .unset, .unset, .unset, .unset, .unset, .unset, .unset, .unset, .unset, .unset, .unset] [(.int p0)])) _
    refine XS.sipush X0.here hx rfl (hb hby at_11) ?_
    show Steps p.tables e below (s₁.setTop (mkF m 14 #[.val (.int p0), .val (.int pp1), .val (.long jo1), .second, .val (.long jo2), .second, .val (.long jl1), .second, .val (.long jl2), .second, .val (.int ((((p0.toUInt32 >>> ((16 : Int32) &&& 31).toUInt32).toInt32) &&& (3 : Int32)) % (3 : Int32))), .unset, .unset, .unset, .unset, .unset, .unset, .unset, .unset, .unset, .unset, .unset, .unset, .unset, .unset, .unset, .unset, .unset, .unset, .unset, .unset] [(.int (255 : Int32)), (.int p0)])) _
    refine XS.iand X0.here hx rfl (hb hby at_14) rfl ?_
    show Steps p.tables e below (s₁.setTop (mkF m 15 #[.val (.int p0), .val (.int pp1), .val (.long jo1), .second, .val (.long jo2), .second, .val (.long jl1), .second, .val (.long jl2), .second, .val (.int ((((p0.toUInt32 >>> ((16 : Int32) &&& 31).toUInt32).toInt32) &&& (3 : Int32)) % (3 : Int32))), .unset, .unset, .unset, .unset, .unset, .unset, .unset, .unset, .unset, .unset, .unset, .unset, .unset, .unset, .unset, .unset, .unset, .unset, .unset, .unset] [(.int (p0 &&& (255 : Int32)))])) _
    refine XS.i2c X0.here hx rfl (hb hby at_15) rfl ?_
    show Steps p.tables e below (s₁.setTop (mkF m 16 #[.val (.int p0), .val (.int pp1), .val (.long jo1), .second, .val (.long jo2), .second, .val (.long jl1), .second, .val (.long jl2), .second, .val (.int ((((p0.toUInt32 >>> ((16 : Int32) &&& 31).toUInt32).toInt32) &&& (3 : Int32)) % (3 : Int32))), .unset, .unset, .unset, .unset, .unset, .unset, .unset, .unset, .unset, .unset, .unset, .unset, .unset, .unset, .unset, .unset, .unset, .unset, .unset, .unset] [(.int ((p0 &&& (255 : Int32)).toUInt32.toUInt16.toUInt32.toInt32))])) _
    refine XS.istore X0.here hx rfl (hb hby at_16) rfl (l' := #[.val (.int p0), .val (.int pp1), .val (.long jo1), .second, .val (.long jo2), .second, .val (.long jl1), .second, .val (.long jl2), .second, .val (.int ((((p0.toUInt32 >>> ((16 : Int32) &&& 31).toUInt32).toInt32) &&& (3 : Int32)) % (3 : Int32))), .val (.int ((p0 &&& (255 : Int32)).toUInt32.toUInt16.toUInt32.toInt32)), .unset, .unset, .unset, .unset, .unset, .unset, .unset, .unset, .unset, .unset, .unset, .unset, .unset, .unset, .unset, .unset, .unset, .unset, .unset]) rfl ?_
    show Steps p.tables e below (s₁.setTop (mkF m 18 #[.val (.int p0), .val (.int pp1), .val (.long jo1), .second, .val (.long jo2), .second, .val (.long jl1), .second, .val (.long jl2), .second, .val (.int ((((p0.toUInt32 >>> ((16 : Int32) &&& 31).toUInt32).toInt32) &&& (3 : Int32)) % (3 : Int32))), .val (.int ((p0 &&& (255 : Int32)).toUInt32.toUInt16.toUInt32.toInt32)), .unset, .unset, .unset, .unset, .unset, .unset, .unset, .unset, .unset, .unset, .unset, .unset, .unset, .unset, .unset, .unset, .unset, .unset, .unset] [])) _
    refine XS.iloadN X0.here hx rfl (hb hby at_18) rfl ?_
    show Steps p.tables e below (s₁.setTop (mkF m 19 #[.val (.int p0), .val (.int pp1), .val (.long jo1), .second, .val (.long jo2), .second, .val (.long jl1), .second, .val (.long jl2), .second, .val (.int ((((p0.toUInt32 >>> ((16 : Int32) &&& 31).toUInt32).toInt32) &&& (3 : Int32)) % (3 : Int32))), .val (.int ((p0 &&& (255 : Int32)).toUInt32.toUInt16.toUInt32.toInt32)), .unset, .unset, .unset, .unset, .unset, .unset, .unset, .unset, .unset, .unset, .unset, .unset, .unset, .unset, .unset, .unset, .unset, .unset, .unset] [(.int p0)])) _
    refine XS.bipush X0.here hx rfl (hb hby at_19) ?_
    show Steps p.tables e below (s₁.setTop (mkF m 21 #[.val (.int p0), .val (.int pp1), .val (.long jo1), .second, .val (.long jo2), .second, .val (.long jl1), .second, .val (.long jl2), .second, .val (.int ((((p0.toUInt32 >>> ((16 : Int32) &&& 31).toUInt32).toInt32) &&& (3 : Int32)) % (3 : Int32))), .val (.int ((p0 &&& (255 : Int32)).toUInt32.toUInt16.toUInt32.toInt32)), .unset, .unset, .unset, .unset, .unset, .unset, .unset, .unset, .unset, .unset, .unset, .unset, .unset, .unset, .unset, .unset, .unset, .unset, .unset] [(.int (8 : Int32)), (.int p0)])) _
    refine XS.iushr X0.here hx rfl (hb hby at_21) rfl ?_
    show Steps p.tables e below (s₁.setTop (mkF m 22 #[.val (.int p0), .val (.int pp1), .val (.long jo1), .second, .val (.long jo2), .second, .val (.long jl1), .second, .val (.long jl2), .second, .val (.int ((((p0.toUInt32 >>> ((16 : Int32) &&& 31).toUInt32).toInt32) &&& (3 : Int32)) % (3 : Int32))), .val (.int ((p0 &&& (255 : Int32)).toUInt32.toUInt16.toUInt32.toInt32)), .unset, .unset, .unset, .unset, .unset, .unset, .unset, .unset, .unset, .unset, .unset, .unset, .unset, .unset, .unset, .unset, .unset, .unset, .unset] [(.int ((p0.toUInt32 >>> ((8 : Int32) &&& 31).toUInt32).toInt32))])) _
    refine XS.sipush X0.here hx rfl (hb hby at_22) ?_
    show Steps p.tables e below (s₁.setTop (mkF m 25 #[.val (.int p0), .val (.int pp1), .val (.long jo1), .second, .val (.long jo2), .second, .val (.long jl1), .second, .val (.long jl2), .second, .val (.int ((((p0.toUInt32 >>> ((16 : Int32) &&& 31).toUInt32).toInt32) &&& (3 : Int32)) % (3 : Int32))), .val (.int ((p0 &&& (255 : Int32)).toUInt32.toUInt16.toUInt32.toInt32)), .unset, .unset, .unset, .unset, .unset, .unset, .unset, .unset, .unset, .unset, .unset, .unset, .unset, .unset, .unset, .unset, .unset, .unset, .unset] [(.int (255 : Int32)), (.int ((p0.toUInt32 >>> ((8 : Int32) &&& 31).toUInt32).toInt32))])) _
    refine XS.iand X0.here hx rfl (hb hby at_25) rfl ?_
    show Steps p.tables e below (s₁.setTop (mkF m 26 #[.val (.int p0), .val (.int pp1), .val (.long jo1), .second, .val (.long jo2), .second, .val (.long jl1), .second, .val (.long jl2), .second, .val (.int ((((p0.toUInt32 >>> ((16 : Int32) &&& 31).toUInt32).toInt32) &&& (3 : Int32)) % (3 : Int32))), .val (.int ((p0 &&& (255 : Int32)).toUInt32.toUInt16.toUInt32.toInt32)), .unset, .unset, .unset, .unset, .unset, .unset, .unset, .unset, .unset, .unset, .unset, .unset, .unset, .unset, .unset, .unset, .unset, .unset, .unset] [(.int (((p0.toUInt32 >>> ((8 : Int32) &&& 31).toUInt32).toInt32) &&& (255 : Int32)))])) _
    refine XS.i2c X0.here hx rfl (hb hby at_26) rfl ?_
    show Steps p.tables e below (s₁.setTop (mkF m 27 #[.val (.int p0), .val (.int pp1), .val (.long jo1), .second, .val (.long jo2), .second, .val (.long jl1), .second, .val (.long jl2), .second, .val (.int ((((p0.toUInt32 >>> ((16 : Int32) &&& 31).toUInt32).toInt32) &&& (3 : Int32)) % (3 : Int32))), .val (.int ((p0 &&& (255 : Int32)).toUInt32.toUInt16.toUInt32.toInt32)), .unset, .unset, .unset, .unset, .unset, .unset, .unset, .unset, .unset, .unset, .unset, .unset, .unset, .unset, .unset, .unset, .unset, .unset, .unset] [(.int ((((p0.toUInt32 >>> ((8 : Int32) &&& 31).toUInt32).toInt32) &&& (255 : Int32)).toUInt32.toUInt16.toUInt32.toInt32))])) _
    refine XS.istore X0.here hx rfl (hb hby at_27) rfl (l' := #[.val (.int p0), .val (.int pp1), .val (.long jo1), .second, .val (.long jo2), .second, .val (.long jl1), .second, .val (.long jl2), .second, .val (.int ((((p0.toUInt32 >>> ((16 : Int32) &&& 31).toUInt32).toInt32) &&& (3 : Int32)) % (3 : Int32))), .val (.int ((p0 &&& (255 : Int32)).toUInt32.toUInt16.toUInt32.toInt32)), .val (.int ((((p0.toUInt32 >>> ((8 : Int32) &&& 31).toUInt32).toInt32) &&& (255 : Int32)).toUInt32.toUInt16.toUInt32.toInt32)), .unset, .unset, .unset, .unset, .unset, .unset, .unset, .unset, .unset, .unset, .unset, .unset, .unset, .unset, .unset, .unset, .unset, .unset]) rfl ?_
    exact kt)
  refine cps (A := ∃ (n1 : Int32) (x0 : Int32) (x1 : Int32), (own_N n1 ∧ own_C x0 ∧ own_C x1) ∧ ∀ t, Steps p.tables e below (s₁.setTop (mkF m 29 #[.val (.int p0), .val (.int pp1), .val (.long jo1), .second, .val (.long jo2), .second, .val (.long jl1), .second, .val (.long jl2), .second, .val (.int n1), .val (.int x0), .val (.int x1), .unset, .unset, .unset, .unset, .unset, .unset, .unset, .unset, .unset, .unset, .unset, .unset, .unset, .unset, .unset, .unset, .unset, .unset] [])) t → Steps p.tables e below (s₁.setTop (entryFrame m #[(.int p0), (.int pp1), (.long jo1), (.long jo2), (.long jl1), (.long jl2)] maxLocals)) t) (fun kj2 => ?_) ?_
  · skip
    exact kj2 ⟨((((p0.toUInt32 >>> ((16 : Int32) &&& 31).toUInt32).toInt32) &&& (3 : Int32)) % (3 : Int32)), ((p0 &&& (255 : Int32)).toUInt32.toUInt16.toUInt32.toInt32), ((((p0.toUInt32 >>> ((8 : Int32) &&& 31).toUInt32).toInt32) &&& (255 : Int32)).toUInt32.toUInt16.toUInt32.toInt32), ⟨own_mod3 _, own_and255 _, own_and255 _⟩, pre1⟩
  · rintro ⟨n1, x0, x1, hj_n1, preJ2⟩
    have pre3 : ∀ t, Steps p.tables e below (s₁.setTop (mkF m 35 #[.val (.int p0), .val (.int pp1), .val (.long jo1), .second, .val (.long jo2), .second, .val (.long jl1), .second, .val (.long jl2), .second, .val (.int n1), .val (.int x0), .val (.int x1), .unset, .unset, .unset, .unset, .unset, .unset, .unset, .unset, .unset, .unset, .unset, .unset, .unset, .unset, .unset, .unset, .unset, .unset] [(.int (((pp1.toUInt32 >>> ((18 : Int32) &&& 31).toUInt32).toInt32) &&& (1 : Int32)))])) t → Steps p.tables e below (s₁.setTop (entryFrame m #[(.int p0), (.int pp1), (.long jo1), (.long jo2), (.long jl1), (.long jl2)] maxLocals)) t := fun t kt => preJ2 t (by
      show Steps p.tables e below (s₁.setTop (mkF m 29 #[.val (.int p0), .val (.int pp1), .val (.long jo1), .second, .val (.long jo2), .second, .val (.long jl1), .second, .val (.long jl2), .second, .val (.int n1), .val (.int x0), .val (.int x1), .unset, .unset, .unset, .unset, .unset, .unset, .unset, .unset, .unset, .unset, .unset, .unset, .unset, .unset, .unset, .unset, .unset, .unset] [])) _
      refine XS.iloadN X0.here hx rfl (hb hby at_29) rfl ?_
      show Steps p.tables e below (s₁.setTop (mkF m 30 #[.val (.int p0), .val (.int pp1), .val (.long jo1), .second, .val (.long jo2), .second, .val (.long jl1), .second, .val (.long jl2), .second, .val (.int n1), .val (.int x0), .val (.int x1), .unset, .unset, .unset, .unset, .unset, .unset, .unset, .unset, .unset, .unset, .unset, .unset, .unset, .unset, .unset, .unset, .unset, .unset] [(.int pp1)])) _
      refine XS.bipush X0.here hx rfl (hb hby at_30) ?_
      show Steps p.tables e below (s₁.setTop (mkF m 32 #[.val (.int p0), .val (.int pp1), .val (.long jo1), .second, .val (.long jo2), .second, .val (.long jl1), .second, .val (.long jl2), .second, .val (.int n1), .val (.int x0), .val (.int x1), .unset, .unset, .unset, .unset, .unset, .unset, .unset, .unset, .unset, .unset, .unset, .unset, .unset, .unset, .unset, .unset, .unset, .unset] [(.int (18 : Int32)), (.int pp1)])) _
      refine XS.iushr X0.here hx rfl (hb hby at_32) rfl ?_
      show Steps p.tables e below (s₁.setTop (mkF m 33 #[.val (.int p0), .val (.int pp1), .val (.long jo1), .second, .val (.long jo2), .second, .val (.long jl1), .second, .val (.long jl2), .second, .val (.int n1), .val (.int x0), .val (.int x1), .unset, .unset, .unset, .unset, .unset, .unset, .unset, .unset, .unset, .unset, .unset, .unset, .unset, .unset, .unset, .unset, .unset, .unset] [(.int ((pp1.toUInt32 >>> ((18 : Int32) &&& 31).toUInt32).toInt32))])) _
      refine XS.iconst X0.here hx rfl (hb hby at_33) ?_
      show Steps p.tables e below (s₁.setTop (mkF m 34 #[.val (.int p0), .val (.int pp1), .val (.long jo1), .second, .val (.long jo2), .second, .val (.long jl1), .second, .val (.long jl2), .second, .val (.int n1), .val (.int x0), .val (.int x1), .unset, .unset, .unset, .unset, .unset, .unset, .unset, .unset, .unset, .unset, .unset, .unset, .unset, .unset, .unset, .unset, .unset, .unset] [(.int (1 : Int32)), (.int ((pp1.toUInt32 >>> ((18 : Int32) &&& 31).toUInt32).toInt32))])) _
      refine XS.iand X0.here hx rfl (hb hby at_34) rfl ?_
      exact kt)
    refine cps (A := ∃ (n2 : Int32) (y0 : Int32) (y1 : Int32), (own_N n2 ∧ own_C y0 ∧ own_C y1) ∧ ∀ t, Steps p.tables e below (s₁.setTop (mkF m 82 #[.val (.int p0), .val (.int pp1), .val (.long jo1), .second, .val (.long jo2), .second, .val (.long jl1), .second, .val (.long jl2), .second, .val (.int n1), .val (.int x0), .val (.int x1), .val (.int n2), .val (.int y0), .val (.int y1), .unset, .unset, .unset, .unset, .unset, .unset, .unset, .unset, .unset, .unset, .unset, .unset, .unset, .unset, .unset] [])) t → Steps p.tables e below (s₁.setTop (entryFrame m #[(.int p0), (.int pp1), (.long jo1), (.long jo2), (.long jl1), (.long jl2)] maxLocals)) t) (fun kj4 => ?_) ?_
    · skip
      by_cases hcx5 : (((pp1.toUInt32 >>> ((18 : Int32) &&& 31).toUInt32).toInt32) &&& (1 : Int32)) = (0 : Int32)
      · skip
        have pre6 : ∀ t, Steps p.tables e below (s₁.setTop (mkF m 82 #[.val (.int p0), .val (.int pp1), .val (.long jo1), .second, .val (.long jo2), .second, .val (.long jl1), .second, .val (.long jl2), .second, .val (.int n1), .val (.int x0), .val (.int x1), .val (.int ((((pp1.toUInt32 >>> ((16 : Int32) &&& 31).toUInt32).toInt32) &&& (3 : Int32)) % (3 : Int32))), .val (.int ((pp1 &&& (255 : Int32)).toUInt32.toUInt16.toUInt32.toInt32)), .val (.int ((((pp1.toUInt32 >>> ((8 : Int32) &&& 31).toUInt32).toInt32) &&& (255 : Int32)).toUInt32.toUInt16.toUInt32.toInt32)), .unset, .unset, .unset, .unset, .unset, .unset, .unset, .unset, .unset, .unset, .unset, .unset, .unset, .unset, .unset] [])) t → Steps p.tables e below (s₁.setTop (entryFrame m #[(.int p0), (.int pp1), (.long jo1), (.long jo2), (.long jl1), (.long jl2)] maxLocals)) t := fun t kt => pre3 t (by
          show Steps p.tables e below (s₁.setTop (mkF m 35 #[.val (.int p0), .val (.int pp1), .val (.long jo1), .second, .val (.long jo2), .second, .val (.long jl1), .second, .val (.long jl2), .second, .val (.int n1), .val (.int x0), .val (.int x1), .unset, .unset, .unset, .unset, .unset, .unset, .unset, .unset, .unset, .unset, .unset, .unset, .unset, .unset, .unset, .unset, .unset, .unset] [(.int (((pp1.toUInt32 >>> ((18 : Int32) &&& 31).toUInt32).toInt32) &&& (1 : Int32)))])) _
          refine XS.ifYes X0.here hx rfl (pc0 := 35) (pc' := 53) rfl (hb hby at_35) rfl ((if0 _ _).trans (teq hcx5).1) (by decide) (by decide) ?_
          show Steps p.tables e below (s₁.setTop (mkF m 53 #[.val (.int p0), .val (.int pp1), .val (.long jo1), .second, .val (.long jo2), .second, .val (.long jl1), .second, .val (.long jl2), .second, .val (.int n1), .val (.int x0), .val (.int x1), .unset, .unset, .unset, .unset, .unset, .unset, .unset, .unset, .unset, .unset, .unset, .unset, .unset, .unset, .unset, .unset, .unset, .unset] [])) _
          refine XS.iloadN X0.here hx rfl (hb hby at_53) rfl ?_
          show Steps p.tables e below (s₁.setTop (mkF m 54 #[.val (.int p0), .val (.int pp1), .val (.long jo1), .second, .val (.long jo2), .second, .val (.long jl1), .second, .val (.long jl2), .second, .val (.int n1), .val (.int x0), .val (.int x1), .unset, .unset, .unset, .unset, .unset, .unset, .unset, .unset, .unset, .unset, .unset, .unset, .unset, .unset, .unset, .unset, .unset, .unset] [(.int pp1)])) _
          refine XS.bipush X0.here hx rfl (hb hby at_54) ?_
          show Steps p.tables e below (s₁.setTop (mkF m 56 #[.val (.int p0), .val (.int pp1), .val (.long jo1), .second, .val (.long jo2), .second, .val (.long jl1), .second, .val (.long jl2), .second, .val (.int n1), .val (.int x0), .val (.int x1), .unset, .unset, .unset, .unset, .unset, .unset, .unset, .unset, .unset, .unset, .unset, .unset, .unset, .unset, .unset, .unset, .unset, .unset] [(.int (16 : Int32)), (.int pp1)])) _
          refine XS.iushr X0.here hx rfl (hb hby at_56) rfl ?_
          show Steps p.tables e below (s₁.setTop (mkF m 57 #[.val (.int p0), .val (.int pp1), .val (.long jo1), .second, .val (.long jo2), .second, .val (.long jl1), .second, .val (.long jl2), .second, .val (.int n1), .val (.int x0), .val (.int x1), .unset, .unset, .unset, .unset, .unset, .unset, .unset, .unset, .unset, .unset, .unset, .unset, .unset, .unset, .unset, .unset, .unset, .unset] [(.int ((pp1.toUInt32 >>> ((16 : Int32) &&& 31).toUInt32).toInt32))])) _
          refine XS.iconst X0.here hx rfl (hb hby at_57) ?_
          show Steps p.tables e below (s₁.setTop (mkF m 58 #[.val (.int p0), .val (.int pp1), .val (.long jo1), .second, .val (.long jo2), .second, .val (.long jl1), .second, .val (.long jl2), .second, .val (.int n1), .val (.int x0), .val (.int x1), .unset, .unset, .unset, .unset, .unset, .unset, .unset, .unset, .unset, .unset, .unset, .unset, .unset, .unset, .unset, .unset, .unset, .unset] [(.int (3 : Int32)), (.int ((pp1.toUInt32 >>> ((16 : Int32) &&& 31).toUInt32).toInt32))])) _
          refine XS.iand X0.here hx rfl (hb hby at_58) rfl ?_
          show Steps p.tables e below (s₁.setTop (mkF m 59 #[.val (.int p0), .val (.int pp1), .val (.long jo1), .second, .val (.long jo2), .second, .val (.long jl1), .second, .val (.long jl2), .second, .val (.int n1), .val (.int x0), .val (.int x1), .unset, .unset, .unset, .unset, .unset, .unset, .unset, .unset, .unset, .unset, .unset, .unset, .unset, .unset, .unset, .unset, .unset, .unset] [(.int (((pp1.toUInt32 >>> ((16 : Int32) &&& 31).toUInt32).toInt32) &&& (3 : Int32)))])) _
          refine XS.iconst X0.here hx rfl (hb hby at_59) ?_
          show Steps p.tables e below (s₁.setTop (mkF m 60 #[.val (.int p0), .val (.int pp1), .val (.long jo1), .second, .val (.long jo2), .second, .val (.long jl1), .second, .val (.long jl2), .second, .val (.int n1), .val (.int x0), .val (.int x1), .unset, .unset, .unset, .unset, .unset, .unset, .unset, .unset, .unset, .unset, .unset, .unset, .unset, .unset, .unset, .unset, .unset, .unset] [(.int (3 : Int32)), (.int (((pp1.toUInt32 >>> ((16 : Int32) &&& 31).toUInt32).toInt32) &&& (3 : Int32)))])) _
          refine iremM X0 hx rfl (hb hby at_60) rfl (by decide) ?_
          show Steps p.tables e below (s₁.setTop (mkF m 61 #[.val (.int p0), .val (.int pp1), .val (.long jo1), .second, .val (.long jo2), .second, .val (.long jl1), .second, .val (.long jl2), .second, .val (.int n1), .val (.int x0), .val (.int x1), .unset, .unset, .unset, .unset, .unset, .unset, .unset, .unset, .unset, .unset, .unset, .unset, .unset, .unset, .unset, .unset, .unset, .unset] [(.int ((((pp1.toUInt32 >>> ((16 : Int32) &&& 31).toUInt32).toInt32) &&& (3 : Int32)) % (3 : Int32)))])) _
          refine XS.istore X0.here hx rfl (hb hby at_61) rfl (l' := #[.val (.int p0), .val (.int pp1), .val (.long jo1), .second, .val (.long jo2), .second, .val (.long jl1), .second, .val (.long jl2), .second, .val (.int n1), .val (.int x0), .val (.int x1), .val (.int ((((pp1.toUInt32 >>> ((16 : Int32) &&& 31).toUInt32).toInt32) &&& (3 : Int32)) % (3 : Int32))), .unset, .unset, .unset, .unset, .unset, .unset, .unset, .unset, .unset, .unset, .unset, .unset, .unset, .unset, .unset, .unset, .unset]) rfl ?_
          show Steps p.tables e below (s₁.setTop (mkF m 63 #[.val (.int p0), .val (.int pp1), .val (.long jo1), .second, .val (.long jo2), .second, .val (.long jl1), .second, .val (.long jl2), .second, .val (.int n1), .val (.int x0), .val (.int x1), .val (.int ((((pp1.toUInt32 >>> ((16 : Int32) &&& 31).toUInt32).toInt32) &&& (3 : Int32)) % (3 : Int32))), .unset, .unset, .unset, .unset, .unset, .unset, .unset, .unset, .unset, .unset, .unset, .unset, .unset, .unset, .unset, .unset, .unset] [])) _
          refine XS.iloadN X0.here hx rfl (hb hby at_63) rfl ?_
          show Steps p.tables e below (s₁.setTop (mkF m 64 #[.val (.int p0), .val (.int pp1), .val (.long jo1), .second, .val (.long jo2), .second, .val (.long jl1), .second, .val (.long jl2), .second, .val (.int n1), .val (.int x0), .val (.int x1), .val (.int ((((pp1.toUInt32 >>> ((16 : Int32) &&& 31).toUInt32).toInt32) &&& (3 : Int32)) % (3 : Int32))), .unset, .unset, .unset, .unset, .unset, .unset, .unset, .unset, .unset, .unset, .unset, .unset, .unset, .unset, .unset, .unset, .unset] [(.int pp1)])) _
          refine XS.sipush X0.here hx rfl (hb hby at_64) ?_
          show Steps p.tables e below (s₁.setTop (mkF m 67 #[.val (.int p0), .val (.int pp1), .val (.long jo1), .second, .val (.long jo2), .second, .val (.long jl1), .second, .val (.long jl2), .second, .val (.int n1), .val (.int x0), .val (.int x1), .val (.int ((((pp1.toUInt32 >>> ((16 : Int32) &&& 31).toUInt32).toInt32) &&& (3 : Int32)) % (3 : Int32))), .unset, .unset, .unset, .unset, .unset, .unset, .unset, .unset, .unset, .unset, .unset, .unset, .unset, .unset, .unset, .unset, .unset] [(.int (255 : Int32)), (.int pp1)])) _
          refine XS.iand X0.here hx rfl (hb hby at_67) rfl ?_
          show Steps p.tables e below (s₁.setTop (mkF m 68 #[.val (.int p0), .val (.int pp1), .val (.long jo1), .second, .val (.long jo2), .second, .val (.long jl1), .second, .val (.long jl2), .second, .val (.int n1), .val (.int x0), .val (.int x1), .val (.int ((((pp1.toUInt32 >>> ((16 : Int32) &&& 31).toUInt32).toInt32) &&& (3 : Int32)) % (3 : Int32))), .unset, .unset, .unset, .unset, .unset, .unset, .unset, .unset, .unset, .unset, .unset, .unset, .unset, .unset, .unset, .unset, .unset] [(.int (pp1 &&& (255 : Int32)))])) _
          refine XS.i2c X0.here hx rfl (hb hby at_68) rfl ?_
          show Steps p.tables e below (s₁.setTop (mkF m 69 #[.val (.int p0), .val (.int pp1), .val (.long jo1), .second, .val (.long jo2), .second, .val (.long jl1), .second, .val (.long jl2), .second, .val (.int n1), .val (.int x0), .val (.int x1), .val (.int ((((pp1.toUInt32 >>> ((16 : Int32) &&& 31).toUInt32).toInt32) &&& (3 : Int32)) % (3 : Int32))), .unset, .unset, .unset, .unset, .unset, .unset, .unset, .unset, .unset, .unset, .unset, .unset, .unset, .unset, .unset, .unset, .unset] [(.int ((pp1 &&& (255 : Int32)).toUInt32.toUInt16.toUInt32.toInt32))])) _
          refine XS.istore X0.here hx rfl (hb hby at_69) rfl (l' := #[.val (.int p0), .val (.int pp1), .val (.long jo1), .second, .val (.long jo2), .second, .val (.long jl1), .second, .val (.long jl2), .second, .val (.int n1), .val (.int x0), .val (.int x1), .val (.int ((((pp1.toUInt32 >>> ((16 : Int32) &&& 31).toUInt32).toInt32) &&& (3 : Int32)) % (3 : Int32))), .val (.int ((pp1 &&& (255 : Int32)).toUInt32.toUInt16.toUInt32.toInt32)), .unset, .unset, .unset, .unset, .unset, .unset, .unset, .unset, .unset, .unset, .unset, .unset, .unset, .unset, .unset, .unset]) rfl ?_
          show Steps p.tables e below (s₁.setTop (mkF m 71 #[.val (.int p0), .val (.int pp1), .val (.long jo1), .second, .val (.long jo2), .second, .val (.long jl1), .second, .val (.long jl2), .second, .val (.int n1), .val (.int x0), .val (.int x1), .val (.int ((((pp1.toUInt32 >>> ((16 : Int32) &&& 31).toUInt32).toInt32) &&& (3 : Int32)) % (3 : Int32))), .val (.int ((pp1 &&& (255 : Int32)).toUInt32.toUInt16.toUInt32.toInt32)), .unset, .unset, .unset, .unset, .unset, .unset, .unset, .unset, .unset, .unset, .unset, .unset, .unset, .unset, .unset, .unset] [])) _
          refine XS.iloadN X0.here hx rfl (hb hby at_71) rfl ?_
          show Steps p.tables e below (s₁.setTop (mkF m 72 #[.val (.int p0), .val (.int pp1), .val (.long jo1), .second, .val (.long jo2), .second, .val (.long jl1), .second, .val (.long jl2), .second, .val (.int n1), .val (.int x0), .val (.int x1), .val (.int ((((pp1.toUInt32 >>> ((16 : Int32) &&& 31).toUInt32).toInt32) &&& (3 : Int32)) % (3 : Int32))), .val (.int ((pp1 &&& (255 : Int32)).toUInt32.toUInt16.toUInt32.toInt32)), .unset, .unset, .unset, .unset, .unset, .unset, .unset, .unset, .unset, .unset, .unset, .unset, .unset, .unset, .unset, .unset] [(.int pp1)])) _
          refine XS.bipush X0.here hx rfl (hb hby at_72) ?_
          show Steps p.tables e below (s₁.setTop (mkF m 74 #[.val (.int p0), .val (.int pp1), .val (.long jo1), .second, .val (.long jo2), .second, .val (.long jl1), .second, .val (.long jl2), .second, .val (.int n1), .val (.int x0), .val (.int x1), .val (.int ((((pp1.toUInt32 >>> ((16 : Int32) &&& 31).toUInt32).toInt32) &&& (3 : Int32)) % (3 : Int32))), .val (.int ((pp1 &&& (255 : Int32)).toUInt32.toUInt16.toUInt32.toInt32)), .unset, .unset, .unset, .unset, .unset, .unset, .unset, .unset, .unset, .unset, .unset, .unset, .unset, .unset, .unset, .unset] [(.int (8 : Int32)), (.int pp1)])) _
          refine XS.iushr X0.here hx rfl (hb hby at_74) rfl ?_
          show Steps p.tables e below (s₁.setTop (mkF m 75 #[.val (.int p0), .val (.int pp1), .val (.long jo1), .second, .val (.long jo2), .second, .val (.long jl1), .second, .val (.long jl2), .second, .val (.int n1), .val (.int x0), .val (.int x1), .val (.int ((((pp1.toUInt32 >>> ((16 : Int32) &&& 31).toUInt32).toInt32) &&& (3 : Int32)) % (3 : Int32))), .val (.int ((pp1 &&& (255 : Int32)).toUInt32.toUInt16.toUInt32.toInt32)), .unset, .unset, .unset, .unset, .unset, .unset, .unset, .unset, .unset, .unset, .unset, .unset, .unset, .unset, .unset, .unset] [(.int ((pp1.toUInt32 >>> ((8 : Int32) &&& 31).toUInt32).toInt32))])) _
          refine XS.sipush X0.here hx rfl (hb hby at_75) ?_
          show Steps p.tables e below (s₁.setTop (mkF m 78 #[.val (.int p0), .val (.int pp1), .val (.long jo1), .second, .val (.long jo2), .second, .val (.long jl1), .second, .val (.long jl2), .second, .val (.int n1), .val (.int x0), .val (.int x1), .val (.int ((((pp1.toUInt32 >>> ((16 : Int32) &&& 31).toUInt32).toInt32) &&& (3 : Int32)) % (3 : Int32))), .val (.int ((pp1 &&& (255 : Int32)).toUInt32.toUInt16.toUInt32.toInt32)), .unset, .unset, .unset, .unset, .unset, .unset, .unset, .unset, .unset, .unset, .unset, .unset, .unset, .unset, .unset, .unset] [(.int (255 : Int32)), (.int ((pp1.toUInt32 >>> ((8 : Int32) &&& 31).toUInt32).toInt32))])) _
          refine XS.iand X0.here hx rfl (hb hby at_78) rfl ?_
          show Steps p.tables e below (s₁.setTop (mkF m 79 #[.val (.int p0), .val (.int pp1), .val (.long jo1), .second, .val (.long jo2), .second, .val (.long jl1), .second, .val (.long jl2), .second, .val (.int n1), .val (.int x0), .val (.int x1), .val (.int ((((pp1.toUInt32 >>> ((16 : Int32) &&& 31).toUInt32).toInt32) &&& (3 : Int32)) % (3 : Int32))), .val (.int ((pp1 &&& (255 : Int32)).toUInt32.toUInt16.toUInt32.toInt32)), .unset, .unset, .unset, .unset, .unset, .unset, .unset, .unset, .unset, .unset, .unset, .unset, .unset, .unset, .unset, .unset] [(.int (((pp1.toUInt32 >>> ((8 : Int32) &&& 31).toUInt32).toInt32) &&& (255 : Int32)))])) _
          refine XS.i2c X0.here hx rfl (hb hby at_79) rfl ?_
          show Steps p.tables e below (s₁.setTop (mkF m 80 #[.val (.int p0), .val (.int pp1), .val (.long jo1), .second, .val (.long jo2), .second, .val (.long jl1), .second, .val (.long jl2), .second, .val (.int n1), .val (.int x0), .val (.int x1), .val (.int ((((pp1.toUInt32 >>> ((16 : Int32) &&& 31).toUInt32).toInt32) &&& (3 : Int32)) % (3 : Int32))), .val (.int ((pp1 &&& (255 : Int32)).toUInt32.toUInt16.toUInt32.toInt32)), .unset, .unset, .unset, .unset, .unset, .unset, .unset, .unset, .unset, .unset, .unset, .unset, .unset, .unset, .unset, .unset] [(.int ((((pp1.toUInt32 >>> ((8 : Int32) &&& 31).toUInt32).toInt32) &&& (255 : Int32)).toUInt32.toUInt16.toUInt32.toInt32))])) _
          refine XS.istore X0.here hx rfl (hb hby at_80) rfl (l' := #[.val (.int p0), .val (.int pp1), .val (.long jo1), .second, .val (.long jo2), .second, .val (.long jl1), .second, .val (.long jl2), .second, .val (.int n1), .val (.int x0), .val (.int x1), .val (.int ((((pp1.toUInt32 >>> ((16 : Int32) &&& 31).toUInt32).toInt32) &&& (3 : Int32)) % (3 : Int32))), .val (.int ((pp1 &&& (255 : Int32)).toUInt32.toUInt16.toUInt32.toInt32)), .val (.int ((((pp1.toUInt32 >>> ((8 : Int32) &&& 31).toUInt32).toInt32) &&& (255 : Int32)).toUInt32.toUInt16.toUInt32.toInt32)), .unset, .unset, .unset, .unset, .unset, .unset, .unset, .unset, .unset, .unset, .unset, .unset, .unset, .unset, .unset]) rfl ?_
          exact kt)
        exact kj4 ⟨((((pp1.toUInt32 >>> ((16 : Int32) &&& 31).toUInt32).toInt32) &&& (3 : Int32)) % (3 : Int32)), ((pp1 &&& (255 : Int32)).toUInt32.toUInt16.toUInt32.toInt32), ((((pp1.toUInt32 >>> ((8 : Int32) &&& 31).toUInt32).toInt32) &&& (255 : Int32)).toUInt32.toUInt16.toUInt32.toInt32), ⟨own_mod3 _, own_and255 _, own_and255 _⟩, pre6⟩
      · skip
        have pre7 : ∀ t, Steps p.tables e below (s₁.setTop (mkF m 82 #[.val (.int p0), .val (.int pp1), .val (.long jo1), .second, .val (.long jo2), .second, .val (.long jl1), .second, .val (.long jl2), .second, .val (.int n1), .val (.int x0), .val (.int x1), .val (.int n1), .val (.int x0), .val (.int x1), .unset, .unset, .unset, .unset, .unset, .unset, .unset, .unset, .unset, .unset, .unset, .unset, .unset, .unset, .unset] [])) t → Steps p.tables e below (s₁.setTop (entryFrame m #[(.int p0), (.int pp1), (.long jo1), (.long jo2), (.long jl1), (.long jl2)] maxLocals)) t := fun t kt => pre3 t (by
          show Steps p.tables e below (s₁.setTop (mkF m 35 #[.val (.int p0), .val (.int pp1), .val (.long jo1), .second, .val (.long jo2), .second, .val (.long jl1), .second, .val (.long jl2), .second, .val (.int n1), .val (.int x0), .val (.int x1), .unset, .unset, .unset, .unset, .unset, .unset, .unset, .unset, .unset, .unset, .unset, .unset, .unset, .unset, .unset, .unset, .unset, .unset] [(.int (((pp1.toUInt32 >>> ((18 : Int32) &&& 31).toUInt32).toInt32) &&& (1 : Int32)))])) _
          refine XS.ifNo X0.here hx rfl (hb hby at_35) rfl ((if0 _ _).trans (feq hcx5).1) ?_
          show Steps p.tables e below (s₁.setTop (mkF m 38 #[.val (.int p0), .val (.int pp1), .val (.long jo1), .second, .val (.long jo2), .second, .val (.long jl1), .second, .val (.long jl2), .second, .val (.int n1), .val (.int x0), .val (.int x1), .unset, .unset, .unset, .unset, .unset, .unset, .unset, .unset, .unset, .unset, .unset, .unset, .unset, .unset, .unset, .unset, .unset, .unset] [])) _
          refine XS.iload X0.here hx rfl (hb hby at_38) rfl ?_
          show Steps p.tables e below (s₁.setTop (mkF m 40 #[.val (.int p0), .val (.int pp1), .val (.long jo1), .second, .val (.long jo2), .second, .val (.long jl1), .second, .val (.long jl2), .second, .val (.int n1), .val (.int x0), .val (.int x1), .unset, .unset, .unset, .unset, .unset, .unset, .unset, .unset, .unset, .unset, .unset, .unset, .unset, .unset, .unset, .unset, .unset, .unset] [(.int n1)])) _
          refine XS.istore X0.here hx rfl (hb hby at_40) rfl (l' := #[.val (.int p0), .val (.int pp1), .val (.long jo1), .second, .val (.long jo2), .second, .val (.long jl1), .second, .val (.long jl2), .second, .val (.int n1), .val (.int x0), .val (.int x1), .val (.int n1), .unset, .unset, .unset, .unset, .unset, .unset, .unset, .unset, .unset, .unset, .unset, .unset, .unset, .unset, .unset, .unset, .unset]) rfl ?_
          show Steps p.tables e below (s₁.setTop (mkF m 42 #[.val (.int p0), .val (.int pp1), .val (.long jo1), .second, .val (.long jo2), .second, .val (.long jl1), .second, .val (.long jl2), .second, .val (.int n1), .val (.int x0), .val (.int x1), .val (.int n1), .unset, .unset, .unset, .unset, .unset, .unset, .unset, .unset, .unset, .unset, .unset, .unset, .unset, .unset, .unset, .unset, .unset] [])) _
          refine XS.iload X0.here hx rfl (hb hby at_42) rfl ?_
          show Steps p.tables e below (s₁.setTop (mkF m 44 #[.val (.int p0), .val (.int pp1), .val (.long jo1), .second, .val (.long jo2), .second, .val (.long jl1), .second, .val (.long jl2), .second, .val (.int n1), .val (.int x0), .val (.int x1), .val (.int n1), .unset, .unset, .unset, .unset, .unset, .unset, .unset, .unset, .unset, .unset, .unset, .unset, .unset, .unset, .unset, .unset, .unset] [(.int x0)])) _
          refine XS.istore X0.here hx rfl (hb hby at_44) rfl (l' := #[.val (.int p0), .val (.int pp1), .val (.long jo1), .second, .val (.long jo2), .second, .val (.long jl1), .second, .val (.long jl2), .second, .val (.int n1), .val (.int x0), .val (.int x1), .val (.int n1), .val (.int x0), .unset, .unset, .unset, .unset, .unset, .unset, .unset, .unset, .unset, .unset, .unset, .unset, .unset, .unset, .unset, .unset]) rfl ?_
          show Steps p.tables e below (s₁.setTop (mkF m 46 #[.val (.int p0), .val (.int pp1), .val (.long jo1), .second, .val (.long jo2), .second, .val (.long jl1), .second, .val (.long jl2), .second, .val (.int n1), .val (.int x0), .val (.int x1), .val (.int n1), .val (.int x0), .unset, .unset, .unset, .unset, .unset, .unset, .unset, .unset, .unset, .unset, .unset, .unset, .unset, .unset, .unset, .unset] [])) _
          refine XS.iload X0.here hx rfl (hb hby at_46) rfl ?_
          show Steps p.tables e below (s₁.setTop (mkF m 48 #[.val (.int p0), .val (.int pp1), .val (.long jo1), .second, .val (.long jo2), .second, .val (.long jl1), .second, .val (.long jl2), .second, .val (.int n1), .val (.int x0), .val (.int x1), .val (.int n1), .val (.int x0), .unset, .unset, .unset, .unset, .unset, .unset, .unset, .unset, .unset, .unset, .unset, .unset, .unset, .unset, .unset, .unset] [(.int x1)])) _
          refine XS.istore X0.here hx rfl (hb hby at_48) rfl (l' := #[.val (.int p0), .val (.int pp1), .val (.long jo1), .second, .val (.long jo2), .second, .val (.long jl1), .second, .val (.long jl2), .second, .val (.int n1), .val (.int x0), .val (.int x1), .val (.int n1), .val (.int x0), .val (.int x1), .unset, .unset, .unset, .unset, .unset, .unset, .unset, .unset, .unset, .unset, .unset, .unset, .unset, .unset, .unset]) rfl ?_
          show Steps p.tables e below (s₁.setTop (mkF m 50 #[.val (.int p0), .val (.int pp1), .val (.long jo1), .second, .val (.long jo2), .second, .val (.long jl1), .second, .val (.long jl2), .second, .val (.int n1), .val (.int x0), .val (.int x1), .val (.int n1), .val (.int x0), .val (.int x1), .unset, .unset, .unset, .unset, .unset, .unset, .unset, .unset, .unset, .unset, .unset, .unset, .unset, .unset, .unset] [])) _
          refine XS.goto X0.here hx rfl (pc0 := 50) (pc' := 82) rfl (hb hby at_50) (by decide) (by decide) ?_
          exact kt)
        exact kj4 ⟨n1, x0, x1, hj_n1, pre7⟩
    · rintro ⟨n2, y0, y1, hj_n2, preJ4⟩
      have pre8 : ∀ t, Steps p.tables e below (s₁.setTop (mkF m 97 #[.val (.int p0), .val (.int pp1), .val (.long jo1), .second, .val (.long jo2), .second, .val (.long jl1), .second, .val (.long jl2), .second, .val (.int n1), .val (.int x0), .val (.int x1), .val (.int n2), .val (.int y0), .val (.int y1), .val (.long (jo1 &&& (9223372036854775807 : Int64))), .second, .val (.long (jl1 &&& (9223372036854775807 : Int64))), .second, .unset, .unset, .unset, .unset, .unset, .unset, .unset, .unset, .unset, .unset, .unset] [])) t → Steps p.tables e below (s₁.setTop (entryFrame m #[(.int p0), (.int pp1), (.long jo1), (.long jo2), (.long jl1), (.long jl2)] maxLocals)) t := fun t kt => preJ4 t (by
        show Steps p.tables e below (s₁.setTop (mkF m 82 #[.val (.int p0), .val (.int pp1), .val (.long jo1), .second, .val (.long jo2), .second, .val (.long jl1), .second, .val (.long jl2), .second, .val (.int n1), .val (.int x0), .val (.int x1), .val (.int n2), .val (.int y0), .val (.int y1), .unset, .unset, .unset, .unset, .unset, .unset, .unset, .unset, .unset, .unset, .unset, .unset, .unset, .unset, .unset] [])) _
        refine XS.lloadN X0.here hx rfl (hb hby at_82) rfl ?_
        show Steps p.tables e below (s₁.setTop (mkF m 83 #[.val (.int p0), .val (.int pp1), .val (.long jo1), .second, .val (.long jo2), .second, .val (.long jl1), .second, .val (.long jl2), .second, .val (.int n1), .val (.int x0), .val (.int x1), .val (.int n2), .val (.int y0), .val (.int y1), .unset, .unset, .unset, .unset, .unset, .unset, .unset, .unset, .unset, .unset, .unset, .unset, .unset, .unset, .unset] [(.long jo1)])) _
        refine X0.ldc2Long hx hown0 (mvT hZ0 (own_k hw 0 rfl)) (g := (mkF m 83 #[.val (.int p0), .val (.int pp1), .val (.long jo1), .second, .val (.long jo2), .second, .val (.long jl1), .second, .val (.long jl2), .second, .val (.int n1), .val (.int x0), .val (.int x1), .val (.int n2), .val (.int y0), .val (.int y1), .unset, .unset, .unset, .unset, .unset, .unset, .unset, .unset, .unset, .unset, .unset, .unset, .unset, .unset, .unset] [(.long jo1)])) rfl (hb hby at_83) _ ?_
        show Steps p.tables e below (s₁.setTop (mkF m 86 #[.val (.int p0), .val (.int pp1), .val (.long jo1), .second, .val (.long jo2), .second, .val (.long jl1), .second, .val (.long jl2), .second, .val (.int n1), .val (.int x0), .val (.int x1), .val (.int n2), .val (.int y0), .val (.int y1), .unset, .unset, .unset, .unset, .unset, .unset, .unset, .unset, .unset, .unset, .unset, .unset, .unset, .unset, .unset] [(.long (9223372036854775807 : Int64)), (.long jo1)])) _
        refine XS.land X0.here hx rfl (hb hby at_86) rfl ?_
        show Steps p.tables e below (s₁.setTop (mkF m 87 #[.val (.int p0), .val (.int pp1), .val (.long jo1), .second, .val (.long jo2), .second, .val (.long jl1), .second, .val (.long jl2), .second, .val (.int n1), .val (.int x0), .val (.int x1), .val (.int n2), .val (.int y0), .val (.int y1), .unset, .unset, .unset, .unset, .unset, .unset, .unset, .unset, .unset, .unset, .unset, .unset, .unset, .unset, .unset] [(.long (jo1 &&& (9223372036854775807 : Int64)))])) _
        refine XS.lstore X0.here hx rfl (hb hby at_87) rfl (l' := #[.val (.int p0), .val (.int pp1), .val (.long jo1), .second, .val (.long jo2), .second, .val (.long jl1), .second, .val (.long jl2), .second, .val (.int n1), .val (.int x0), .val (.int x1), .val (.int n2), .val (.int y0), .val (.int y1), .val (.long (jo1 &&& (9223372036854775807 : Int64))), .second, .unset, .unset, .unset, .unset, .unset, .unset, .unset, .unset, .unset, .unset, .unset, .unset, .unset]) rfl ?_
        show Steps p.tables e below (s₁.setTop (mkF m 89 #[.val (.int p0), .val (.int pp1), .val (.long jo1), .second, .val (.long jo2), .second, .val (.long jl1), .second, .val (.long jl2), .second, .val (.int n1), .val (.int x0), .val (.int x1), .val (.int n2), .val (.int y0), .val (.int y1), .val (.long (jo1 &&& (9223372036854775807 : Int64))), .second, .unset, .unset, .unset, .unset, .unset, .unset, .unset, .unset, .unset, .unset, .unset, .unset, .unset] [])) _
        refine XS.lload X0.here hx rfl (hb hby at_89) rfl ?_
        show Steps p.tables e below (s₁.setTop (mkF m 91 #[.val (.int p0), .val (.int pp1), .val (.long jo1), .second, .val (.long jo2), .second, .val (.long jl1), .second, .val (.long jl2), .second, .val (.int n1), .val (.int x0), .val (.int x1), .val (.int n2), .val (.int y0), .val (.int y1), .val (.long (jo1 &&& (9223372036854775807 : Int64))), .second, .unset, .unset, .unset, .unset, .unset, .unset, .unset, .unset, .unset, .unset, .unset, .unset, .unset] [(.long jl1)])) _
        refine X0.ldc2Long hx hown0 (mvT hZ0 (own_k hw 0 rfl)) (g := (mkF m 91 #[.val (.int p0), .val (.int pp1), .val (.long jo1), .second, .val (.long jo2), .second, .val (.long jl1), .second, .val (.long jl2), .second, .val (.int n1), .val (.int x0), .val (.int x1), .val (.int n2), .val (.int y0), .val (.int y1), .val (.long (jo1 &&& (9223372036854775807 : Int64))), .second, .unset, .unset, .unset, .unset, .unset, .unset, .unset, .unset, .unset, .unset, .unset, .unset, .unset] [(.long jl1)])) rfl (hb hby at_91) _ ?_
        show Steps p.tables e below (s₁.setTop (mkF m 94 #[.val (.int p0), .val (.int pp1), .val (.long jo1), .second, .val (.long jo2), .second, .val (.long jl1), .second, .val (.long jl2), .second, .val (.int n1), .val (.int x0), .val (.int x1), .val (.int n2), .val (.int y0), .val (.int y1), .val (.long (jo1 &&& (9223372036854775807 : Int64))), .second, .unset, .unset, .unset, .unset, .unset, .unset, .unset, .unset, .unset, .unset, .unset, .unset, .unset] [(.long (9223372036854775807 : Int64)), (.long jl1)])) _
        refine XS.land X0.here hx rfl (hb hby at_94) rfl ?_
        show Steps p.tables e below (s₁.setTop (mkF m 95 #[.val (.int p0), .val (.int pp1), .val (.long jo1), .second, .val (.long jo2), .second, .val (.long jl1), .second, .val (.long jl2), .second, .val (.int n1), .val (.int x0), .val (.int x1), .val (.int n2), .val (.int y0), .val (.int y1), .val (.long (jo1 &&& (9223372036854775807 : Int64))), .second, .unset, .unset, .unset, .unset, .unset, .unset, .unset, .unset, .unset, .unset, .unset, .unset, .unset] [(.long (jl1 &&& (9223372036854775807 : Int64)))])) _
        refine XS.lstore X0.here hx rfl (hb hby at_95) rfl (l' := #[.val (.int p0), .val (.int pp1), .val (.long jo1), .second, .val (.long jo2), .second, .val (.long jl1), .second, .val (.long jl2), .second, .val (.int n1), .val (.int x0), .val (.int x1), .val (.int n2), .val (.int y0), .val (.int y1), .val (.long (jo1 &&& (9223372036854775807 : Int64))), .second, .val (.long (jl1 &&& (9223372036854775807 : Int64))), .second, .unset, .unset, .unset, .unset, .unset, .unset, .unset, .unset, .unset, .unset, .unset]) rfl ?_
        exact kt)
      refine cps (A := ∃ (p1 : Int64) (r1 : Int64), (¬ ((lcmpW p1 (0 : Int64)) < (0 : Int32)) ∧ ¬ ((lcmpW r1 (0 : Int64)) < (0 : Int32))) ∧ ∀ t, Steps p.tables e below (s₁.setTop (mkF m 97 #[.val (.int p0), .val (.int pp1), .val (.long jo1), .second, .val (.long jo2), .second, .val (.long jl1), .second, .val (.long jl2), .second, .val (.int n1), .val (.int x0), .val (.int x1), .val (.int n2), .val (.int y0), .val (.int y1), .val (.long p1), .second, .val (.long r1), .second, .unset, .unset, .unset, .unset, .unset, .unset, .unset, .unset, .unset, .unset, .unset] [])) t → Steps p.tables e below (s₁.setTop (entryFrame m #[(.int p0), (.int pp1), (.long jo1), (.long jo2), (.long jl1), (.long jl2)] maxLocals)) t) (fun kj9 => ?_) ?_
      · skip
        exact kj9 ⟨(jo1 &&& (9223372036854775807 : Int64)), (jl1 &&& (9223372036854775807 : Int64)), ⟨own_max _, own_max _⟩, pre8⟩
      · rintro ⟨p1, r1, hj_p1, preJ9⟩
        have pre10 : ∀ t, Steps p.tables e below (s₁.setTop (mkF m 103 #[.val (.int p0), .val (.int pp1), .val (.long jo1), .second, .val (.long jo2), .second, .val (.long jl1), .second, .val (.long jl2), .second, .val (.int n1), .val (.int x0), .val (.int x1), .val (.int n2), .val (.int y0), .val (.int y1), .val (.long p1), .second, .val (.long r1), .second, .unset, .unset, .unset, .unset, .unset, .unset, .unset, .unset, .unset, .unset, .unset] [(.int (((pp1.toUInt32 >>> ((19 : Int32) &&& 31).toUInt32).toInt32) &&& (1 : Int32)))])) t → Steps p.tables e below (s₁.setTop (entryFrame m #[(.int p0), (.int pp1), (.long jo1), (.long jo2), (.long jl1), (.long jl2)] maxLocals)) t := fun t kt => preJ9 t (by
          show Steps p.tables e below (s₁.setTop (mkF m 97 #[.val (.int p0), .val (.int pp1), .val (.long jo1), .second, .val (.long jo2), .second, .val (.long jl1), .second, .val (.long jl2), .second, .val (.int n1), .val (.int x0), .val (.int x1), .val (.int n2), .val (.int y0), .val (.int y1), .val (.long p1), .second, .val (.long r1), .second, .unset, .unset, .unset, .unset, .unset, .unset, .unset, .unset, .unset, .unset, .unset] [])) _
          refine XS.iloadN X0.here hx rfl (hb hby at_97) rfl ?_
          show Steps p.tables e below (s₁.setTop (mkF m 98 #[.val (.int p0), .val (.int pp1), .val (.long jo1), .second, .val (.long jo2), .second, .val (.long jl1), .second, .val (.long jl2), .second, .val (.int n1), .val (.int x0), .val (.int x1), .val (.int n2), .val (.int y0), .val (.int y1), .val (.long p1), .second, .val (.long r1), .second, .unset, .unset, .unset, .unset, .unset, .unset, .unset, .unset, .unset, .unset, .unset] [(.int pp1)])) _
          refine XS.bipush X0.here hx rfl (hb hby at_98) ?_
          show Steps p.tables e below (s₁.setTop (mkF m 100 #[.val (.int p0), .val (.int pp1), .val (.long jo1), .second, .val (.long jo2), .second, .val (.long jl1), .second, .val (.long jl2), .second, .val (.int n1), .val (.int x0), .val (.int x1), .val (.int n2), .val (.int y0), .val (.int y1), .val (.long p1), .second, .val (.long r1), .second, .unset, .unset, .unset, .unset, .unset, .unset, .unset, .unset, .unset, .unset, .unset] [(.int (19 : Int32)), (.int pp1)])) _
          refine XS.iushr X0.here hx rfl (hb hby at_100) rfl ?_
          show Steps p.tables e below (s₁.setTop (mkF m 101 #[.val (.int p0), .val (.int pp1), .val (.long jo1), .second, .val (.long jo2), .second, .val (.long jl1), .second, .val (.long jl2), .second, .val (.int n1), .val (.int x0), .val (.int x1), .val (.int n2), .val (.int y0), .val (.int y1), .val (.long p1), .second, .val (.long r1), .second, .unset, .unset, .unset, .unset, .unset, .unset, .unset, .unset, .unset, .unset, .unset] [(.int ((pp1.toUInt32 >>> ((19 : Int32) &&& 31).toUInt32).toInt32))])) _
          refine XS.iconst X0.here hx rfl (hb hby at_101) ?_
          show Steps p.tables e below (s₁.setTop (mkF m 102 #[.val (.int p0), .val (.int pp1), .val (.long jo1), .second, .val (.long jo2), .second, .val (.long jl1), .second, .val (.long jl2), .second, .val (.int n1), .val (.int x0), .val (.int x1), .val (.int n2), .val (.int y0), .val (.int y1), .val (.long p1), .second, .val (.long r1), .second, .unset, .unset, .unset, .unset, .unset, .unset, .unset, .unset, .unset, .unset, .unset] [(.int (1 : Int32)), (.int ((pp1.toUInt32 >>> ((19 : Int32) &&& 31).toUInt32).toInt32))])) _
          refine XS.iand X0.here hx rfl (hb hby at_102) rfl ?_
          exact kt)
        refine cps (A := ∃ (p2 : Int64), (¬ ((lcmpW p2 (0 : Int64)) < (0 : Int32))) ∧ ∀ t, Steps p.tables e below (s₁.setTop (mkF m 119 #[.val (.int p0), .val (.int pp1), .val (.long jo1), .second, .val (.long jo2), .second, .val (.long jl1), .second, .val (.long jl2), .second, .val (.int n1), .val (.int x0), .val (.int x1), .val (.int n2), .val (.int y0), .val (.int y1), .val (.long p1), .second, .val (.long r1), .second, .val (.long p2), .second, .unset, .unset, .unset, .unset, .unset, .unset, .unset, .unset, .unset] [])) t → Steps p.tables e below (s₁.setTop (entryFrame m #[(.int p0), (.int pp1), (.long jo1), (.long jo2), (.long jl1), (.long jl2)] maxLocals)) t) (fun kj11 => ?_) ?_
        · skip
          by_cases hcx12 : (((pp1.toUInt32 >>> ((19 : Int32) &&& 31).toUInt32).toInt32) &&& (1 : Int32)) = (0 : Int32)
          · skip
            have pre13 : ∀ t, Steps p.tables e below (s₁.setTop (mkF m 119 #[.val (.int p0), .val (.int pp1), .val (.long jo1), .second, .val (.long jo2), .second, .val (.long jl1), .second, .val (.long jl2), .second, .val (.int n1), .val (.int x0), .val (.int x1), .val (.int n2), .val (.int y0), .val (.int y1), .val (.long p1), .second, .val (.long r1), .second, .val (.long (jo2 &&& (9223372036854775807 : Int64))), .second, .unset, .unset, .unset, .unset, .unset, .unset, .unset, .unset, .unset] [])) t → Steps p.tables e below (s₁.setTop (entryFrame m #[(.int p0), (.int pp1), (.long jo1), (.long jo2), (.long jl1), (.long jl2)] maxLocals)) t := fun t kt => pre10 t (by
              show Steps p.tables e below (s₁.setTop (mkF m 103 #[.val (.int p0), .val (.int pp1), .val (.long jo1), .second, .val (.long jo2), .second, .val (.long jl1), .second, .val (.long jl2), .second, .val (.int n1), .val (.int x0), .val (.int x1), .val (.int n2), .val (.int y0), .val (.int y1), .val (.long p1), .second, .val (.long r1), .second, .unset, .unset, .unset, .unset, .unset, .unset, .unset, .unset, .unset, .unset, .unset] [(.int (((pp1.toUInt32 >>> ((19 : Int32) &&& 31).toUInt32).toInt32) &&& (1 : Int32)))])) _
              refine XS.ifYes X0.here hx rfl (pc0 := 103) (pc' := 111) rfl (hb hby at_103) rfl ((if0 _ _).trans (teq hcx12).1) (by decide) (by decide) ?_
              show Steps p.tables e below (s₁.setTop (mkF m 111 #[.val (.int p0), .val (.int pp1), .val (.long jo1), .second, .val (.long jo2), .second, .val (.long jl1), .second, .val (.long jl2), .second, .val (.int n1), .val (.int x0), .val (.int x1), .val (.int n2), .val (.int y0), .val (.int y1), .val (.long p1), .second, .val (.long r1), .second, .unset, .unset, .unset, .unset, .unset, .unset, .unset, .unset, .unset, .unset, .unset] [])) _
              refine XS.lload X0.here hx rfl (hb hby at_111) rfl ?_
              show Steps p.tables e below (s₁.setTop (mkF m 113 #[.val (.int p0), .val (.int pp1), .val (.long jo1), .second, .val (.long jo2), .second, .val (.long jl1), .second, .val (.long jl2), .second, .val (.int n1), .val (.int x0), .val (.int x1), .val (.int n2), .val (.int y0), .val (.int y1), .val (.long p1), .second, .val (.long r1), .second, .unset, .unset, .unset, .unset, .unset, .unset, .unset, .unset, .unset, .unset, .unset] [(.long jo2)])) _
              refine X0.ldc2Long hx hown0 (mvT hZ0 (own_k hw 0 rfl)) (g := (mkF m 113 #[.val (.int p0), .val (.int pp1), .val (.long jo1), .second, .val (.long jo2), .second, .val (.long jl1), .second, .val (.long jl2), .second, .val (.int n1), .val (.int x0), .val (.int x1), .val (.int n2), .val (.int y0), .val (.int y1), .val (.long p1), .second, .val (.long r1), .second, .unset, .unset, .unset, .unset, .unset, .unset, .unset, .unset, .unset, .unset, .unset] [(.long jo2)])) rfl (hb hby at_113) _ ?_
              show Steps p.tables e below (s₁.setTop (mkF m 116 #[.val (.int p0), .val (.int pp1), .val (.long jo1), .second, .val (.long jo2), .second, .val (.long jl1), .second, .val (.long jl2), .second, .val (.int n1), .val (.int x0), .val (.int x1), .val (.int n2), .val (.int y0), .val (.int y1), .val (.long p1), .second, .val (.long r1), .second, .unset, .unset, .unset, .unset, .unset, .unset, .unset, .unset, .unset, .unset, .unset] [(.long (9223372036854775807 : Int64)), (.long jo2)])) _
              refine XS.land X0.here hx rfl (hb hby at_116) rfl ?_
              show Steps p.tables e below (s₁.setTop (mkF m 117 #[.val (.int p0), .val (.int pp1), .val (.long jo1), .second, .val (.long jo2), .second, .val (.long jl1), .second, .val (.long jl2), .second, .val (.int n1), .val (.int x0), .val (.int x1), .val (.int n2), .val (.int y0), .val (.int y1), .val (.long p1), .second, .val (.long r1), .second, .unset, .unset, .unset, .unset, .unset, .unset, .unset, .unset, .unset, .unset, .unset] [(.long (jo2 &&& (9223372036854775807 : Int64)))])) _
              refine XS.lstore X0.here hx rfl (hb hby at_117) rfl (l' := #[.val (.int p0), .val (.int pp1), .val (.long jo1), .second, .val (.long jo2), .second, .val (.long jl1), .second, .val (.long jl2), .second, .val (.int n1), .val (.int x0), .val (.int x1), .val (.int n2), .val (.int y0), .val (.int y1), .val (.long p1), .second, .val (.long r1), .second, .val (.long (jo2 &&& (9223372036854775807 : Int64))), .second, .unset, .unset, .unset, .unset, .unset, .unset, .unset, .unset, .unset]) rfl ?_
              exact kt)
            exact kj11 ⟨(jo2 &&& (9223372036854775807 : Int64)), own_max _, pre13⟩
          · skip
            have pre14 : ∀ t, Steps p.tables e below (s₁.setTop (mkF m 119 #[.val (.int p0), .val (.int pp1), .val (.long jo1), .second, .val (.long jo2), .second, .val (.long jl1), .second, .val (.long jl2), .second, .val (.int n1), .val (.int x0), .val (.int x1), .val (.int n2), .val (.int y0), .val (.int y1), .val (.long p1), .second, .val (.long r1), .second, .val (.long p1), .second, .unset, .unset, .unset, .unset, .unset, .unset, .unset, .unset, .unset] [])) t → Steps p.tables e below (s₁.setTop (entryFrame m #[(.int p0), (.int pp1), (.long jo1), (.long jo2), (.long jl1), (.long jl2)] maxLocals)) t := fun t kt => pre10 t (by
              show Steps p.tables e below (s₁.setTop (mkF m 103 #[.val (.int p0), .val (.int pp1), .val (.long jo1), .second, .val (.long jo2), .second, .val (.long jl1), .second, .val (.long jl2), .second, .val (.int n1), .val (.int x0), .val (.int x1), .val (.int n2), .val (.int y0), .val (.int y1), .val (.long p1), .second, .val (.long r1), .second, .unset, .unset, .unset, .unset, .unset, .unset, .unset, .unset, .unset, .unset, .unset] [(.int (((pp1.toUInt32 >>> ((19 : Int32) &&& 31).toUInt32).toInt32) &&& (1 : Int32)))])) _
              refine XS.ifNo X0.here hx rfl (hb hby at_103) rfl ((if0 _ _).trans (feq hcx12).1) ?_
              show Steps p.tables e below (s₁.setTop (mkF m 106 #[.val (.int p0), .val (.int pp1), .val (.long jo1), .second, .val (.long jo2), .second, .val (.long jl1), .second, .val (.long jl2), .second, .val (.int n1), .val (.int x0), .val (.int x1), .val (.int n2), .val (.int y0), .val (.int y1), .val (.long p1), .second, .val (.long r1), .second, .unset, .unset, .unset, .unset, .unset, .unset, .unset, .unset, .unset, .unset, .unset] [])) _
              refine XS.lload X0.here hx rfl (hb hby at_106) rfl ?_
              show Steps p.tables e below (s₁.setTop (mkF m 108 #[.val (.int p0), .val (.int pp1), .val (.long jo1), .second, .val (.long jo2), .second, .val (.long jl1), .second, .val (.long jl2), .second, .val (.int n1), .val (.int x0), .val (.int x1), .val (.int n2), .val (.int y0), .val (.int y1), .val (.long p1), .second, .val (.long r1), .second, .unset, .unset, .unset, .unset, .unset, .unset, .unset, .unset, .unset, .unset, .unset] [(.long p1)])) _
              refine XS.goto X0.here hx rfl (pc0 := 108) (pc' := 117) rfl (hb hby at_108) (by decide) (by decide) ?_
              show Steps p.tables e below (s₁.setTop (mkF m 117 #[.val (.int p0), .val (.int pp1), .val (.long jo1), .second, .val (.long jo2), .second, .val (.long jl1), .second, .val (.long jl2), .second, .val (.int n1), .val (.int x0), .val (.int x1), .val (.int n2), .val (.int y0), .val (.int y1), .val (.long p1), .second, .val (.long r1), .second, .unset, .unset, .unset, .unset, .unset, .unset, .unset, .unset, .unset, .unset, .unset] [(.long p1)])) _
              refine XS.lstore X0.here hx rfl (hb hby at_117) rfl (l' := #[.val (.int p0), .val (.int pp1), .val (.long jo1), .second, .val (.long jo2), .second, .val (.long jl1), .second, .val (.long jl2), .second, .val (.int n1), .val (.int x0), .val (.int x1), .val (.int n2), .val (.int y0), .val (.int y1), .val (.long p1), .second, .val (.long r1), .second, .val (.long p1), .second, .unset, .unset, .unset, .unset, .unset, .unset, .unset, .unset, .unset]) rfl ?_
              exact kt)
            exact kj11 ⟨p1, hj_p1.1, pre14⟩
        · rintro ⟨p2, hj_p2, preJ11⟩
          have pre15 : ∀ t, Steps p.tables e below (s₁.setTop (mkF m 125 #[.val (.int p0), .val (.int pp1), .val (.long jo1), .second, .val (.long jo2), .second, .val (.long jl1), .second, .val (.long jl2), .second, .val (.int n1), .val (.int x0), .val (.int x1), .val (.int n2), .val (.int y0), .val (.int y1), .val (.long p1), .second, .val (.long r1), .second, .val (.long p2), .second, .unset, .unset, .unset, .unset, .unset, .unset, .unset, .unset, .unset] [(.int (((pp1.toUInt32 >>> ((20 : Int32) &&& 31).toUInt32).toInt32) &&& (1 : Int32)))])) t → Steps p.tables e below (s₁.setTop (entryFrame m #[(.int p0), (.int pp1), (.long jo1), (.long jo2), (.long jl1), (.long jl2)] maxLocals)) t := fun t kt => preJ11 t (by
            show Steps p.tables e below (s₁.setTop (mkF m 119 #[.val (.int p0), .val (.int pp1), .val (.long jo1), .second, .val (.long jo2), .second, .val (.long jl1), .second, .val (.long jl2), .second, .val (.int n1), .val (.int x0), .val (.int x1), .val (.int n2), .val (.int y0), .val (.int y1), .val (.long p1), .second, .val (.long r1), .second, .val (.long p2), .second, .unset, .unset, .unset, .unset, .unset, .unset, .unset, .unset, .unset] [])) _
            refine XS.iloadN X0.here hx rfl (hb hby at_119) rfl ?_
            show Steps p.tables e below (s₁.setTop (mkF m 120 #[.val (.int p0), .val (.int pp1), .val (.long jo1), .second, .val (.long jo2), .second, .val (.long jl1), .second, .val (.long jl2), .second, .val (.int n1), .val (.int x0), .val (.int x1), .val (.int n2), .val (.int y0), .val (.int y1), .val (.long p1), .second, .val (.long r1), .second, .val (.long p2), .second, .unset, .unset, .unset, .unset, .unset, .unset, .unset, .unset, .unset] [(.int pp1)])) _
            refine XS.bipush X0.here hx rfl (hb hby at_120) ?_
            show Steps p.tables e below (s₁.setTop (mkF m 122 #[.val (.int p0), .val (.int pp1), .val (.long jo1), .second, .val (.long jo2), .second, .val (.long jl1), .second, .val (.long jl2), .second, .val (.int n1), .val (.int x0), .val (.int x1), .val (.int n2), .val (.int y0), .val (.int y1), .val (.long p1), .second, .val (.long r1), .second, .val (.long p2), .second, .unset, .unset, .unset, .unset, .unset, .unset, .unset, .unset, .unset] [(.int (20 : Int32)), (.int pp1)])) _
            refine XS.iushr X0.here hx rfl (hb hby at_122) rfl ?_
            show Steps p.tables e below (s₁.setTop (mkF m 123 #[.val (.int p0), .val (.int pp1), .val (.long jo1), .second, .val (.long jo2), .second, .val (.long jl1), .second, .val (.long jl2), .second, .val (.int n1), .val (.int x0), .val (.int x1), .val (.int n2), .val (.int y0), .val (.int y1), .val (.long p1), .second, .val (.long r1), .second, .val (.long p2), .second, .unset, .unset, .unset, .unset, .unset, .unset, .unset, .unset, .unset] [(.int ((pp1.toUInt32 >>> ((20 : Int32) &&& 31).toUInt32).toInt32))])) _
            refine XS.iconst X0.here hx rfl (hb hby at_123) ?_
            show Steps p.tables e below (s₁.setTop (mkF m 124 #[.val (.int p0), .val (.int pp1), .val (.long jo1), .second, .val (.long jo2), .second, .val (.long jl1), .second, .val (.long jl2), .second, .val (.int n1), .val (.int x0), .val (.int x1), .val (.int n2), .val (.int y0), .val (.int y1), .val (.long p1), .second, .val (.long r1), .second, .val (.long p2), .second, .unset, .unset, .unset, .unset, .unset, .unset, .unset, .unset, .unset] [(.int (1 : Int32)), (.int ((pp1.toUInt32 >>> ((20 : Int32) &&& 31).toUInt32).toInt32))])) _
            refine XS.iand X0.here hx rfl (hb hby at_124) rfl ?_
            exact kt)
          refine cps (A := ∃ (r2 : Int64), (¬ ((lcmpW r2 (0 : Int64)) < (0 : Int32))) ∧ ∀ t, Steps p.tables e below (s₁.setTop (mkF m 141 #[.val (.int p0), .val (.int pp1), .val (.long jo1), .second, .val (.long jo2), .second, .val (.long jl1), .second, .val (.long jl2), .second, .val (.int n1), .val (.int x0), .val (.int x1), .val (.int n2), .val (.int y0), .val (.int y1), .val (.long p1), .second, .val (.long r1), .second, .val (.long p2), .second, .val (.long r2), .second, .unset, .unset, .unset, .unset, .unset, .unset, .unset] [])) t → Steps p.tables e below (s₁.setTop (entryFrame m #[(.int p0), (.int pp1), (.long jo1), (.long jo2), (.long jl1), (.long jl2)] maxLocals)) t) (fun kj16 => ?_) ?_
          · skip
            by_cases hcx17 : (((pp1.toUInt32 >>> ((20 : Int32) &&& 31).toUInt32).toInt32) &&& (1 : Int32)) = (0 : Int32)
            · skip
              have pre18 : ∀ t, Steps p.tables e below (s₁.setTop (mkF m 141 #[.val (.int p0), .val (.int pp1), .val (.long jo1), .second, .val (.long jo2), .second, .val (.long jl1), .second, .val (.long jl2), .second, .val (.int n1), .val (.int x0), .val (.int x1), .val (.int n2), .val (.int y0), .val (.int y1), .val (.long p1), .second, .val (.long r1), .second, .val (.long p2), .second, .val (.long (jl2 &&& (9223372036854775807 : Int64))), .second, .unset, .unset, .unset, .unset, .unset, .unset, .unset] [])) t → Steps p.tables e below (s₁.setTop (entryFrame m #[(.int p0), (.int pp1), (.long jo1), (.long jo2), (.long jl1), (.long jl2)] maxLocals)) t := fun t kt => pre15 t (by
                show Steps p.tables e below (s₁.setTop (mkF m 125 #[.val (.int p0), .val (.int pp1), .val (.long jo1), .second, .val (.long jo2), .second, .val (.long jl1), .second, .val (.long jl2), .second, .val (.int n1), .val (.int x0), .val (.int x1), .val (.int n2), .val (.int y0), .val (.int y1), .val (.long p1), .second, .val (.long r1), .second, .val (.long p2), .second, .unset, .unset, .unset, .unset, .unset, .unset, .unset, .unset, .unset] [(.int (((pp1.toUInt32 >>> ((20 : Int32) &&& 31).toUInt32).toInt32) &&& (1 : Int32)))])) _
                refine XS.ifYes X0.here hx rfl (pc0 := 125) (pc' := 133) rfl (hb hby at_125) rfl ((if0 _ _).trans (teq hcx17).1) (by decide) (by decide) ?_
                show Steps p.tables e below (s₁.setTop (mkF m 133 #[.val (.int p0), .val (.int pp1), .val (.long jo1), .second, .val (.long jo2), .second, .val (.long jl1), .second, .val (.long jl2), .second, .val (.int n1), .val (.int x0), .val (.int x1), .val (.int n2), .val (.int y0), .val (.int y1), .val (.long p1), .second, .val (.long r1), .second, .val (.long p2), .second, .unset, .unset, .unset, .unset, .unset, .unset, .unset, .unset, .unset] [])) _
                refine XS.lload X0.here hx rfl (hb hby at_133) rfl ?_
                show Steps p.tables e below (s₁.setTop (mkF m 135 #[.val (.int p0), .val (.int pp1), .val (.long jo1), .second, .val (.long jo2), .second, .val (.long jl1), .second, .val (.long jl2), .second, .val (.int n1), .val (.int x0), .val (.int x1), .val (.int n2), .val (.int y0), .val (.int y1), .val (.long p1), .second, .val (.long r1), .second, .val (.long p2), .second, .unset, .unset, .unset, .unset, .unset, .unset, .unset, .unset, .unset] [(.long jl2)])) _
                refine X0.ldc2Long hx hown0 (mvT hZ0 (own_k hw 0 rfl)) (g := (mkF m 135 #[.val (.int p0), .val (.int pp1), .val (.long jo1), .second, .val (.long jo2), .second, .val (.long jl1), .second, .val (.long jl2), .second, .val (.int n1), .val (.int x0), .val (.int x1), .val (.int n2), .val (.int y0), .val (.int y1), .val (.long p1), .second, .val (.long r1), .second, .val (.long p2), .second, .unset, .unset, .unset, .unset, .unset, .unset, .unset, .unset, .unset] [(.long jl2)])) rfl (hb hby at_135) _ ?_
                show Steps p.tables e below (s₁.setTop (mkF m 138 #[.val (.int p0), .val (.int pp1), .val (.long jo1), .second, .val (.long jo2), .second, .val (.long jl1), .second, .val (.long jl2), .second, .val (.int n1), .val (.int x0), .val (.int x1), .val (.int n2), .val (.int y0), .val (.int y1), .val (.long p1), .second, .val (.long r1), .second, .val (.long p2), .second, .unset, .unset, .unset, .unset, .unset, .unset, .unset, .unset, .unset] [(.long (9223372036854775807 : Int64)), (.long jl2)])) _
                refine XS.land X0.here hx rfl (hb hby at_138) rfl ?_
                show Steps p.tables e below (s₁.setTop (mkF m 139 #[.val (.int p0), .val (.int pp1), .val (.long jo1), .second, .val (.long jo2), .second, .val (.long jl1), .second, .val (.long jl2), .second, .val (.int n1), .val (.int x0), .val (.int x1), .val (.int n2), .val (.int y0), .val (.int y1), .val (.long p1), .second, .val (.long r1), .second, .val (.long p2), .second, .unset, .unset, .unset, .unset, .unset, .unset, .unset, .unset, .unset] [(.long (jl2 &&& (9223372036854775807 : Int64)))])) _
                refine XS.lstore X0.here hx rfl (hb hby at_139) rfl (l' := #[.val (.int p0), .val (.int pp1), .val (.long jo1), .second, .val (.long jo2), .second, .val (.long jl1), .second, .val (.long jl2), .second, .val (.int n1), .val (.int x0), .val (.int x1), .val (.int n2), .val (.int y0), .val (.int y1), .val (.long p1), .second, .val (.long r1), .second, .val (.long p2), .second, .val (.long (jl2 &&& (9223372036854775807 : Int64))), .second, .unset, .unset, .unset, .unset, .unset, .unset, .unset]) rfl ?_
                exact kt)
              exact kj16 ⟨(jl2 &&& (9223372036854775807 : Int64)), own_max _, pre18⟩
            · skip
              have pre19 : ∀ t, Steps p.tables e below (s₁.setTop (mkF m 141 #[.val (.int p0), .val (.int pp1), .val (.long jo1), .second, .val (.long jo2), .second, .val (.long jl1), .second, .val (.long jl2), .second, .val (.int n1), .val (.int x0), .val (.int x1), .val (.int n2), .val (.int y0), .val (.int y1), .val (.long p1), .second, .val (.long r1), .second, .val (.long p2), .second, .val (.long r1), .second, .unset, .unset, .unset, .unset, .unset, .unset, .unset] [])) t → Steps p.tables e below (s₁.setTop (entryFrame m #[(.int p0), (.int pp1), (.long jo1), (.long jo2), (.long jl1), (.long jl2)] maxLocals)) t := fun t kt => pre15 t (by
                show Steps p.tables e below (s₁.setTop (mkF m 125 #[.val (.int p0), .val (.int pp1), .val (.long jo1), .second, .val (.long jo2), .second, .val (.long jl1), .second, .val (.long jl2), .second, .val (.int n1), .val (.int x0), .val (.int x1), .val (.int n2), .val (.int y0), .val (.int y1), .val (.long p1), .second, .val (.long r1), .second, .val (.long p2), .second, .unset, .unset, .unset, .unset, .unset, .unset, .unset, .unset, .unset] [(.int (((pp1.toUInt32 >>> ((20 : Int32) &&& 31).toUInt32).toInt32) &&& (1 : Int32)))])) _
                refine XS.ifNo X0.here hx rfl (hb hby at_125) rfl ((if0 _ _).trans (feq hcx17).1) ?_
                show Steps p.tables e below (s₁.setTop (mkF m 128 #[.val (.int p0), .val (.int pp1), .val (.long jo1), .second, .val (.long jo2), .second, .val (.long jl1), .second, .val (.long jl2), .second, .val (.int n1), .val (.int x0), .val (.int x1), .val (.int n2), .val (.int y0), .val (.int y1), .val (.long p1), .second, .val (.long r1), .second, .val (.long p2), .second, .unset, .unset, .unset, .unset, .unset, .unset, .unset, .unset, .unset] [])) _
                refine XS.lload X0.here hx rfl (hb hby at_128) rfl ?_
                show Steps p.tables e below (s₁.setTop (mkF m 130 #[.val (.int p0), .val (.int pp1), .val (.long jo1), .second, .val (.long jo2), .second, .val (.long jl1), .second, .val (.long jl2), .second, .val (.int n1), .val (.int x0), .val (.int x1), .val (.int n2), .val (.int y0), .val (.int y1), .val (.long p1), .second, .val (.long r1), .second, .val (.long p2), .second, .unset, .unset, .unset, .unset, .unset, .unset, .unset, .unset, .unset] [(.long r1)])) _
                refine XS.goto X0.here hx rfl (pc0 := 130) (pc' := 139) rfl (hb hby at_130) (by decide) (by decide) ?_
                show Steps p.tables e below (s₁.setTop (mkF m 139 #[.val (.int p0), .val (.int pp1), .val (.long jo1), .second, .val (.long jo2), .second, .val (.long jl1), .second, .val (.long jl2), .second, .val (.int n1), .val (.int x0), .val (.int x1), .val (.int n2), .val (.int y0), .val (.int y1), .val (.long p1), .second, .val (.long r1), .second, .val (.long p2), .second, .unset, .unset, .unset, .unset, .unset, .unset, .unset, .unset, .unset] [(.long r1)])) _
                refine XS.lstore X0.here hx rfl (hb hby at_139) rfl (l' := #[.val (.int p0), .val (.int pp1), .val (.long jo1), .second, .val (.long jo2), .second, .val (.long jl1), .second, .val (.long jl2), .second, .val (.int n1), .val (.int x0), .val (.int x1), .val (.int n2), .val (.int y0), .val (.int y1), .val (.long p1), .second, .val (.long r1), .second, .val (.long p2), .second, .val (.long r1), .second, .unset, .unset, .unset, .unset, .unset, .unset, .unset]) rfl ?_
                exact kt)
              exact kj16 ⟨r1, hj_p1.2, pre19⟩
          · rintro ⟨r2, hj_r2, preJ16⟩
            obtain ⟨_, _, ⟨T20, L20, k20, n20⟩, -, X20, hSq20, hgq20, ⟨Lc20, hQ20, l20, y20, z20, hR20⟩, st20⟩ := callSS X0 hx (y := (⟨"com/example/multilingual_query_search/multilingualquerysearch/translation/DictdIndexEntryEqualsPinLaw", "str", "(ICC)Ljava/lang/String;"⟩ : MethodName)) hown0 (mvT hZ0 (own_k hw 1 rfl)) (mvT hZ0 (own_k hw 2 rfl)) (mvT hZ0 (own_k hw 3 rfl)) (mvT hZ0 (own_k hw 4 rfl)) (by decide) (own_backSQ (W := 0) (rmStr l Z a0 hw [] n1 x0 x1 G1 h0 n0 Z0 hS (hG) hO (hj_n1.2.1) (hj_n1.2.2)) hZ0 (own_k hw 4 rfl) (own_k hw 3 rfl) (by decide) (by decide) hEL R0.1 sf0 all0) (g := (mkF m 147 #[.val (.int p0), .val (.int pp1), .val (.long jo1), .second, .val (.long jo2), .second, .val (.long jl1), .second, .val (.long jl2), .second, .val (.int n1), .val (.int x0), .val (.int x1), .val (.int n2), .val (.int y0), .val (.int y1), .val (.long p1), .second, .val (.long r1), .second, .val (.long p2), .second, .val (.long r2), .second, .unset, .unset, .unset, .unset, .unset, .unset, .unset] [(.int x1), (.int x0), (.int n1)])) rfl (by rw [hml]; rfl) (argsL := [(.int n1), (.int x0), (.int x1)]) (rest := []) (lenOf own_pd_4 rfl) rfl (by show 2 * 0 + _ ≤ _; exact Nat.le_of_eq rfl) (hb hby at_147) (fun _ _ => ⟨rfl, e0, (by decide : 0 + 4 ≤ _), (by decide : 0 + 8 ≤ _)⟩)
            dsimp only [Pt.U, Pt.locs, Pt.cells, Pt.slots] at X20 l20 y20 z20 st20 hQ20 hSq20 hgq20 hR20
            subst l20 y20 z20
            obtain ⟨Xr20, hS20, hZ20, hown20⟩ := rebS hS0 (k0 := h0.size) (by rw [e0]; exact Y0) X20 hSq20 hgq20 hZ0 hown0
            obtain ⟨bb_20, tt_20, kk_20, Nq20, Kq20, p20_0, p20_1, p20_2, p20_3, p20_4, p20_5, hv20⟩ := hQ20
            have N20 := Fr.app N0 Nq20
            have g_bb_20 : n0 ≤ bb_20 := Nat.le_trans Z0 p20_0
            have q_bb_20 : Safe Z own_EL s.vm h0 bb_20 := Safe.new p20_0
            have R21 : CHr Z own_EL s.vm h0 T20.vm T20.heap := R0.trans (hR20)
            have Y20 : T20.heap.size ≤ T20.heap.size := Nat.le_refl _
            subst hv20
            have f23 : Old Z n0 T20.heap := (hO.keep Kq20 all0)
            have f24 : n0 ≤ T20.heap.size := (Nat.le_trans Z0 Kq20.1)
            obtain ⟨_, _, ⟨T22, L22, k22, n22⟩, -, X22, hSq22, hgq22, ⟨Lc22, hQ22, l22, y22, z22, hR22⟩, st22⟩ := callSS Xr20 hx (y := (⟨"com/example/multilingual_query_search/multilingualquerysearch/translation/DictdIndexEntryEqualsPinLaw", "str", "(ICC)Ljava/lang/String;"⟩ : MethodName)) hown20 (mvT hZ20 (own_k hw 1 rfl)) (mvT hZ20 (own_k hw 2 rfl)) (mvT hZ20 (own_k hw 3 rfl)) (mvT hZ20 (own_k hw 4 rfl)) (by decide) (own_backSQ (W := 0) (rmStr l Z a0 hw [] n2 y0 y1 G1 T20.heap n0 f24 hS (hG) f23 (hj_n2.2.1) (hj_n2.2.2)) hZ20 (own_k hw 4 rfl) (own_k hw 3 rfl) (by decide) (by decide) hEL R21.1 sf0 all0) (g := (mkF m 158 #[.val (.int p0), .val (.int pp1), .val (.long jo1), .second, .val (.long jo2), .second, .val (.long jl1), .second, .val (.long jl2), .second, .val (.int n1), .val (.int x0), .val (.int x1), .val (.int n2), .val (.int y0), .val (.int y1), .val (.long p1), .second, .val (.long r1), .second, .val (.long p2), .second, .val (.long r2), .second, .val (.ref bb_20), .unset, .unset, .unset, .unset, .unset, .unset] [(.int y1), (.int y0), (.int n2)])) rfl (by rw [hml]; rfl) (argsL := [(.int n2), (.int y0), (.int y1)]) (rest := []) (lenOf own_pd_4 rfl) rfl (by show 2 * 0 + _ ≤ _; exact Nat.le_of_eq rfl) (hb hby at_158) (fun _ _ => ⟨rfl, rfl, (by decide : 4 + 4 ≤ _), (by decide : 8 + 8 ≤ _)⟩)
            dsimp only [Pt.U, Pt.locs, Pt.cells, Pt.slots] at X22 l22 y22 z22 st22 hQ22 hSq22 hgq22 hR22
            subst l22 y22 z22
            obtain ⟨Xr22, hS22, hZ22, hown22⟩ := rebS hS20 (k0 := T20.heap.size) Y20 X22 hSq22 hgq22 hZ20 hown20
            obtain ⟨bb_22, tt_22, kk_22, Nq22, Kq22, p22_0, p22_1, p22_2, p22_3, p22_4, p22_5, hv22⟩ := hQ22
            have N22 := Fr.app N20 Nq22
            have g_bb_22 : n0 ≤ bb_22 := Nat.le_trans f24 p22_0
            have q_bb_22 : Safe Z own_EL T20.vm T20.heap bb_22 := Safe.new p22_0
            have R25 : CHr Z own_EL s.vm h0 T22.vm T22.heap := R21.trans (hR22)
            have Y22 : T22.heap.size ≤ T22.heap.size := Nat.le_refl _
            subst hv22
            obtain ⟨T26, h26, X26, e26, E26, A26, D26, -, st26⟩ := newO Xr22 hx hZ22 hown22 (own_k hw 27 rfl) (own_k hw 28 rfl) (own_k hw 29 rfl) rfl (g := (mkF m 163 #[.val (.int p0), .val (.int pp1), .val (.long jo1), .second, .val (.long jo2), .second, .val (.long jl1), .second, .val (.long jl2), .second, .val (.int n1), .val (.int x0), .val (.int x1), .val (.int n2), .val (.int y0), .val (.int y1), .val (.long p1), .second, .val (.long r1), .second, .val (.long p2), .second, .val (.long r2), .second, .val (.ref bb_20), .val (.ref bb_22), .unset, .unset, .unset, .unset, .unset] [])) rfl (hb hby at_163) (by decide) (by decide)
            obtain ⟨b26, g26⟩ : ∃ z, z = T22.heap.size := ⟨_, rfl⟩
            rw [← g26] at A26 D26 st26
            have f27 : n0 ≤ T22.heap.size := (Nat.le_trans f24 Kq22.1)
            have g_b26 : n0 ≤ b26 := Nat.le_trans f27 (Nat.le_of_eq g26.symm)
            have q_b26 : Safe Z own_EL T22.vm T22.heap b26 := Safe.new (Nat.le_of_eq g26.symm)
            have R28 : CHr Z own_EL s.vm h0 T22.vm h26 := R25.trans (CHr.ext E26 R25.1)
            have F26_headword : Fld Z h26 b26 "com/example/multilingual_query_search/multilingualquerysearch/translation/DictdIndexEntry" "headword" "Ljava/lang/String;" .null := D26 (Or.inr (own_k hw 40 rfl)) (ty := (.object "java/lang/String")) (by decide)
            have F26_offset : Fld Z h26 b26 "com/example/multilingual_query_search/multilingualquerysearch/translation/DictdIndexEntry" "offset" "J" (.long (0 : Int64)) := D26 (Or.inr (own_k hw 42 rfl)) (ty := .long) (by decide)
            have F26_length : Fld Z h26 b26 "com/example/multilingual_query_search/multilingualquerysearch/translation/DictdIndexEntry" "length" "J" (.long (0 : Int64)) := D26 (Or.inr (own_k hw 44 rfl)) (ty := .long) (by decide)
            have f30 : n0 ≤ h26.size := (Nat.le_trans f27 E26.1)
            obtain ⟨_, _, ⟨T29, L29, k29, n29⟩, -, X29, hSq29, hgq29, ⟨Lc29, hQ29, l29, y29, z29, hR29⟩, st29⟩ := X26.specialBackS hx (y := (⟨"com/example/multilingual_query_search/multilingualquerysearch/translation/DictdIndexEntry", "<init>", "(Ljava/lang/String;JJ)V"⟩ : MethodName)) rfl hown22 (mvT hZ22 (own_k hw 30 rfl)) (mvT hZ22 (own_k hw 31 rfl)) (mvT hZ22 (own_k hw 32 rfl)) (by decide) (own_backSQ (W := 1) (rmInit l Z a0 hw [] b26 bb_20 p1 r1 h26 n0 f30 A26 F26_headword F26_offset F26_length g_b26 (hj_p1.1) (hj_p1.2)) hZ22 (own_k hw 32 rfl) (own_k hw 29 rfl) (by decide) (by decide) hEL R28.1 sf0 all0) (g := (mkF m 173 #[.val (.int p0), .val (.int pp1), .val (.long jo1), .second, .val (.long jo2), .second, .val (.long jl1), .second, .val (.long jl2), .second, .val (.int n1), .val (.int x0), .val (.int x1), .val (.int n2), .val (.int y0), .val (.int y1), .val (.long p1), .second, .val (.long r1), .second, .val (.long p2), .second, .val (.long r2), .second, .val (.ref bb_20), .val (.ref bb_22), .unset, .unset, .unset, .unset, .unset] [(.long r1), (.long p1), (.ref bb_20), (.ref b26), (.ref b26)])) rfl (by rw [hml]; rfl) (Steps.refl _) (a := b26) (argsL := [(.ref bb_20), (.long p1), (.long r1)]) (rest := [(.ref b26)]) (lenOf own_pd_5 rfl) rfl (by show 2 * 0 + _ ≤ _; exact Nat.le_of_eq rfl) (hb hby at_173) (fun _ _ => ⟨rfl, e26, (by decide : 9 + 2 ≤ _), (by decide : 19 + 36 ≤ _)⟩)
            dsimp only [Pt.U, Pt.locs, Pt.cells, Pt.slots] at X29 l29 y29 z29 st29 hQ29 hSq29 hgq29 hR29
            subst l29 y29 z29
            have f31 : T22.heap.size ≤ h26.size := (Nat.le_trans Y22 E26.1)
            obtain ⟨Xr29, hS29, hZ29, hown29⟩ := rebS hS22 (k0 := T22.heap.size) (by rw [e26]; exact f31) X29 hSq29 hgq29 hZ22 hown22
            obtain ⟨Nq29, Kq29, p29_0, p29_1, p29_2, p29_3, hv29⟩ := hQ29
            have N29 := Fr.app N22 Nq29
            have R32 : CHr Z own_EL s.vm h0 T29.vm T29.heap := R28.trans (hR29)
            have Y29 : T29.heap.size ≤ T29.heap.size := Nat.le_refl _
            subst hv29
            obtain ⟨T33, h33, X33, e33, E33, A33, D33, -, st33⟩ := newO Xr29 hx hZ29 hown29 (own_k hw 27 rfl) (own_k hw 28 rfl) (own_k hw 29 rfl) rfl (g := (mkF m 178 #[.val (.int p0), .val (.int pp1), .val (.long jo1), .second, .val (.long jo2), .second, .val (.long jl1), .second, .val (.long jl2), .second, .val (.int n1), .val (.int x0), .val (.int x1), .val (.int n2), .val (.int y0), .val (.int y1), .val (.long p1), .second, .val (.long r1), .second, .val (.long p2), .second, .val (.long r2), .second, .val (.ref bb_20), .val (.ref bb_22), .val (.ref b26), .unset, .unset, .unset, .unset] [])) rfl (hb hby at_178) (by decide) (by decide)
            obtain ⟨b33, g33⟩ : ∃ z, z = T29.heap.size := ⟨_, rfl⟩
            rw [← g33] at A33 D33 st33
            have f34 : n0 ≤ T29.heap.size := (Nat.le_trans f30 Kq29.1)
            have g_b33 : n0 ≤ b33 := Nat.le_trans f34 (Nat.le_of_eq g33.symm)
            have q_b33 : Safe Z own_EL T29.vm T29.heap b33 := Safe.new (Nat.le_of_eq g33.symm)
            have R35 : CHr Z own_EL s.vm h0 T29.vm h33 := R32.trans (CHr.ext E33 R32.1)
            have F33_headword : Fld Z h33 b33 "com/example/multilingual_query_search/multilingualquerysearch/translation/DictdIndexEntry" "headword" "Ljava/lang/String;" .null := D33 (Or.inr (own_k hw 40 rfl)) (ty := (.object "java/lang/String")) (by decide)
            have F33_offset : Fld Z h33 b33 "com/example/multilingual_query_search/multilingualquerysearch/translation/DictdIndexEntry" "offset" "J" (.long (0 : Int64)) := D33 (Or.inr (own_k hw 42 rfl)) (ty := .long) (by decide)
            have F33_length : Fld Z h33 b33 "com/example/multilingual_query_search/multilingualquerysearch/translation/DictdIndexEntry" "length" "J" (.long (0 : Int64)) := D33 (Or.inr (own_k hw 44 rfl)) (ty := .long) (by decide)
            have f37 : n0 ≤ h33.size := (Nat.le_trans f34 E33.1)
            obtain ⟨_, _, ⟨T36, L36, k36, n36⟩, -, X36, hSq36, hgq36, ⟨Lc36, hQ36, l36, y36, z36, hR36⟩, st36⟩ := X33.specialBackS hx (y := (⟨"com/example/multilingual_query_search/multilingualquerysearch/translation/DictdIndexEntry", "<init>", "(Ljava/lang/String;JJ)V"⟩ : MethodName)) rfl hown29 (mvT hZ29 (own_k hw 30 rfl)) (mvT hZ29 (own_k hw 31 rfl)) (mvT hZ29 (own_k hw 32 rfl)) (by decide) (own_backSQ (W := 1) (rmInit l Z a0 hw [] b33 bb_22 p2 r2 h33 n0 f37 A33 F33_headword F33_offset F33_length g_b33 (hj_p2) (hj_r2)) hZ29 (own_k hw 32 rfl) (own_k hw 29 rfl) (by decide) (by decide) hEL R35.1 sf0 all0) (g := (mkF m 188 #[.val (.int p0), .val (.int pp1), .val (.long jo1), .second, .val (.long jo2), .second, .val (.long jl1), .second, .val (.long jl2), .second, .val (.int n1), .val (.int x0), .val (.int x1), .val (.int n2), .val (.int y0), .val (.int y1), .val (.long p1), .second, .val (.long r1), .second, .val (.long p2), .second, .val (.long r2), .second, .val (.ref bb_20), .val (.ref bb_22), .val (.ref b26), .unset, .unset, .unset, .unset] [(.long r2), (.long p2), (.ref bb_22), (.ref b33), (.ref b33)])) rfl (by rw [hml]; rfl) (Steps.refl _) (a := b33) (argsL := [(.ref bb_22), (.long p2), (.long r2)]) (rest := [(.ref b33)]) (lenOf own_pd_5 rfl) rfl (by show 2 * 0 + _ ≤ _; exact Nat.le_of_eq rfl) (hb hby at_188) (fun _ _ => ⟨rfl, e33, (by decide : 12 + 2 ≤ _), (by decide : 58 + 36 ≤ _)⟩)
            dsimp only [Pt.U, Pt.locs, Pt.cells, Pt.slots] at X36 l36 y36 z36 st36 hQ36 hSq36 hgq36 hR36
            subst l36 y36 z36
            have f38 : T29.heap.size ≤ h33.size := (Nat.le_trans Y29 E33.1)
            obtain ⟨Xr36, hS36, hZ36, hown36⟩ := rebS hS29 (k0 := T29.heap.size) (by rw [e33]; exact f38) X36 hSq36 hgq36 hZ29 hown29
            obtain ⟨Nq36, Kq36, p36_0, p36_1, p36_2, p36_3, hv36⟩ := hQ36
            have N36 := Fr.app N29 Nq36
            have R39 : CHr Z own_EL s.vm h0 T36.vm T36.heap := R35.trans (hR36)
            have Y36 : T36.heap.size ≤ T36.heap.size := Nat.le_refl _
            subst hv36
            have pre40 : ∀ t, Steps p.tables e below (T36.setTop (mkF m 205 #[.val (.int p0), .val (.int pp1), .val (.long jo1), .second, .val (.long jo2), .second, .val (.long jl1), .second, .val (.long jl2), .second, .val (.int n1), .val (.int x0), .val (.int x1), .val (.int n2), .val (.int y0), .val (.int y1), .val (.long p1), .second, .val (.long r1), .second, .val (.long p2), .second, .val (.long r2), .second, .val (.ref bb_20), .val (.ref bb_22), .val (.ref b26), .val (.ref b33), .val (.int (((p0.toUInt32 >>> ((18 : Int32) &&& 31).toUInt32).toInt32) &&& (7 : Int32))), .unset, .unset] [(.int (5 : Int32)), (.int (((p0.toUInt32 >>> ((18 : Int32) &&& 31).toUInt32).toInt32) &&& (7 : Int32)))])) t → Steps p.tables e below (s₁.setTop (entryFrame m #[(.int p0), (.int pp1), (.long jo1), (.long jo2), (.long jl1), (.long jl2)] maxLocals)) t := fun t kt => preJ16 t (by
              show Steps p.tables e below (s₁.setTop (mkF m 141 #[.val (.int p0), .val (.int pp1), .val (.long jo1), .second, .val (.long jo2), .second, .val (.long jl1), .second, .val (.long jl2), .second, .val (.int n1), .val (.int x0), .val (.int x1), .val (.int n2), .val (.int y0), .val (.int y1), .val (.long p1), .second, .val (.long r1), .second, .val (.long p2), .second, .val (.long r2), .second, .unset, .unset, .unset, .unset, .unset, .unset, .unset] [])) _
              refine XS.iload X0.here hx rfl (hb hby at_141) rfl ?_
              show Steps p.tables e below (s₁.setTop (mkF m 143 #[.val (.int p0), .val (.int pp1), .val (.long jo1), .second, .val (.long jo2), .second, .val (.long jl1), .second, .val (.long jl2), .second, .val (.int n1), .val (.int x0), .val (.int x1), .val (.int n2), .val (.int y0), .val (.int y1), .val (.long p1), .second, .val (.long r1), .second, .val (.long p2), .second, .val (.long r2), .second, .unset, .unset, .unset, .unset, .unset, .unset, .unset] [(.int n1)])) _
              refine XS.iload X0.here hx rfl (hb hby at_143) rfl ?_
              show Steps p.tables e below (s₁.setTop (mkF m 145 #[.val (.int p0), .val (.int pp1), .val (.long jo1), .second, .val (.long jo2), .second, .val (.long jl1), .second, .val (.long jl2), .second, .val (.int n1), .val (.int x0), .val (.int x1), .val (.int n2), .val (.int y0), .val (.int y1), .val (.long p1), .second, .val (.long r1), .second, .val (.long p2), .second, .val (.long r2), .second, .unset, .unset, .unset, .unset, .unset, .unset, .unset] [(.int x0), (.int n1)])) _
              refine XS.iload X0.here hx rfl (hb hby at_145) rfl ?_
              show Steps p.tables e below (s₁.setTop (mkF m 147 #[.val (.int p0), .val (.int pp1), .val (.long jo1), .second, .val (.long jo2), .second, .val (.long jl1), .second, .val (.long jl2), .second, .val (.int n1), .val (.int x0), .val (.int x1), .val (.int n2), .val (.int y0), .val (.int y1), .val (.long p1), .second, .val (.long r1), .second, .val (.long p2), .second, .val (.long r2), .second, .unset, .unset, .unset, .unset, .unset, .unset, .unset] [(.int x1), (.int x0), (.int n1)])) _
              refine st20.trans ?_
              show Steps p.tables e below (T20.setTop (mkF m 150 #[.val (.int p0), .val (.int pp1), .val (.long jo1), .second, .val (.long jo2), .second, .val (.long jl1), .second, .val (.long jl2), .second, .val (.int n1), .val (.int x0), .val (.int x1), .val (.int n2), .val (.int y0), .val (.int y1), .val (.long p1), .second, .val (.long r1), .second, .val (.long p2), .second, .val (.long r2), .second, .unset, .unset, .unset, .unset, .unset, .unset, .unset] [(.ref bb_20)])) _
              refine XS.astore Xr20.here hx rfl (hb hby at_150) rfl rfl (l' := #[.val (.int p0), .val (.int pp1), .val (.long jo1), .second, .val (.long jo2), .second, .val (.long jl1), .second, .val (.long jl2), .second, .val (.int n1), .val (.int x0), .val (.int x1), .val (.int n2), .val (.int y0), .val (.int y1), .val (.long p1), .second, .val (.long r1), .second, .val (.long p2), .second, .val (.long r2), .second, .val (.ref bb_20), .unset, .unset, .unset, .unset, .unset, .unset]) rfl ?_
              show Steps p.tables e below (T20.setTop (mkF m 152 #[.val (.int p0), .val (.int pp1), .val (.long jo1), .second, .val (.long jo2), .second, .val (.long jl1), .second, .val (.long jl2), .second, .val (.int n1), .val (.int x0), .val (.int x1), .val (.int n2), .val (.int y0), .val (.int y1), .val (.long p1), .second, .val (.long r1), .second, .val (.long p2), .second, .val (.long r2), .second, .val (.ref bb_20), .unset, .unset, .unset, .unset, .unset, .unset] [])) _
              refine XS.iload Xr20.here hx rfl (hb hby at_152) rfl ?_
              show Steps p.tables e below (T20.setTop (mkF m 154 #[.val (.int p0), .val (.int pp1), .val (.long jo1), .second, .val (.long jo2), .second, .val (.long jl1), .second, .val (.long jl2), .second, .val (.int n1), .val (.int x0), .val (.int x1), .val (.int n2), .val (.int y0), .val (.int y1), .val (.long p1), .second, .val (.long r1), .second, .val (.long p2), .second, .val (.long r2), .second, .val (.ref bb_20), .unset, .unset, .unset, .unset, .unset, .unset] [(.int n2)])) _
              refine XS.iload Xr20.here hx rfl (hb hby at_154) rfl ?_
              show Steps p.tables e below (T20.setTop (mkF m 156 #[.val (.int p0), .val (.int pp1), .val (.long jo1), .second, .val (.long jo2), .second, .val (.long jl1), .second, .val (.long jl2), .second, .val (.int n1), .val (.int x0), .val (.int x1), .val (.int n2), .val (.int y0), .val (.int y1), .val (.long p1), .second, .val (.long r1), .second, .val (.long p2), .second, .val (.long r2), .second, .val (.ref bb_20), .unset, .unset, .unset, .unset, .unset, .unset] [(.int y0), (.int n2)])) _
              refine XS.iload Xr20.here hx rfl (hb hby at_156) rfl ?_
              show Steps p.tables e below (T20.setTop (mkF m 158 #[.val (.int p0), .val (.int pp1), .val (.long jo1), .second, .val (.long jo2), .second, .val (.long jl1), .second, .val (.long jl2), .second, .val (.int n1), .val (.int x0), .val (.int x1), .val (.int n2), .val (.int y0), .val (.int y1), .val (.long p1), .second, .val (.long r1), .second, .val (.long p2), .second, .val (.long r2), .second, .val (.ref bb_20), .unset, .unset, .unset, .unset, .unset, .unset] [(.int y1), (.int y0), (.int n2)])) _
              refine st22.trans ?_
              show Steps p.tables e below (T22.setTop (mkF m 161 #[.val (.int p0), .val (.int pp1), .val (.long jo1), .second, .val (.long jo2), .second, .val (.long jl1), .second, .val (.long jl2), .second, .val (.int n1), .val (.int x0), .val (.int x1), .val (.int n2), .val (.int y0), .val (.int y1), .val (.long p1), .second, .val (.long r1), .second, .val (.long p2), .second, .val (.long r2), .second, .val (.ref bb_20), .unset, .unset, .unset, .unset, .unset, .unset] [(.ref bb_22)])) _
              refine XS.astore Xr22.here hx rfl (hb hby at_161) rfl rfl (l' := #[.val (.int p0), .val (.int pp1), .val (.long jo1), .second, .val (.long jo2), .second, .val (.long jl1), .second, .val (.long jl2), .second, .val (.int n1), .val (.int x0), .val (.int x1), .val (.int n2), .val (.int y0), .val (.int y1), .val (.long p1), .second, .val (.long r1), .second, .val (.long p2), .second, .val (.long r2), .second, .val (.ref bb_20), .val (.ref bb_22), .unset, .unset, .unset, .unset, .unset]) rfl ?_
              show Steps p.tables e below (T22.setTop (mkF m 163 #[.val (.int p0), .val (.int pp1), .val (.long jo1), .second, .val (.long jo2), .second, .val (.long jl1), .second, .val (.long jl2), .second, .val (.int n1), .val (.int x0), .val (.int x1), .val (.int n2), .val (.int y0), .val (.int y1), .val (.long p1), .second, .val (.long r1), .second, .val (.long p2), .second, .val (.long r2), .second, .val (.ref bb_20), .val (.ref bb_22), .unset, .unset, .unset, .unset, .unset] [])) _
              refine st26 _ ?_
              show Steps p.tables e below (T26.setTop (mkF m 166 #[.val (.int p0), .val (.int pp1), .val (.long jo1), .second, .val (.long jo2), .second, .val (.long jl1), .second, .val (.long jl2), .second, .val (.int n1), .val (.int x0), .val (.int x1), .val (.int n2), .val (.int y0), .val (.int y1), .val (.long p1), .second, .val (.long r1), .second, .val (.long p2), .second, .val (.long r2), .second, .val (.ref bb_20), .val (.ref bb_22), .unset, .unset, .unset, .unset, .unset] [(.ref b26)])) _
              refine XS.dup X26.here hx rfl (hb hby at_166) rfl rfl ?_
              show Steps p.tables e below (T26.setTop (mkF m 167 #[.val (.int p0), .val (.int pp1), .val (.long jo1), .second, .val (.long jo2), .second, .val (.long jl1), .second, .val (.long jl2), .second, .val (.int n1), .val (.int x0), .val (.int x1), .val (.int n2), .val (.int y0), .val (.int y1), .val (.long p1), .second, .val (.long r1), .second, .val (.long p2), .second, .val (.long r2), .second, .val (.ref bb_20), .val (.ref bb_22), .unset, .unset, .unset, .unset, .unset] [(.ref b26), (.ref b26)])) _
              refine XS.aload X26.here hx rfl (hb hby at_167) rfl rfl ?_
              show Steps p.tables e below (T26.setTop (mkF m 169 #[.val (.int p0), .val (.int pp1), .val (.long jo1), .second, .val (.long jo2), .second, .val (.long jl1), .second, .val (.long jl2), .second, .val (.int n1), .val (.int x0), .val (.int x1), .val (.int n2), .val (.int y0), .val (.int y1), .val (.long p1), .second, .val (.long r1), .second, .val (.long p2), .second, .val (.long r2), .second, .val (.ref bb_20), .val (.ref bb_22), .unset, .unset, .unset, .unset, .unset] [(.ref bb_20), (.ref b26), (.ref b26)])) _
              refine XS.lload X26.here hx rfl (hb hby at_169) rfl ?_
              show Steps p.tables e below (T26.setTop (mkF m 171 #[.val (.int p0), .val (.int pp1), .val (.long jo1), .second, .val (.long jo2), .second, .val (.long jl1), .second, .val (.long jl2), .second, .val (.int n1), .val (.int x0), .val (.int x1), .val (.int n2), .val (.int y0), .val (.int y1), .val (.long p1), .second, .val (.long r1), .second, .val (.long p2), .second, .val (.long r2), .second, .val (.ref bb_20), .val (.ref bb_22), .unset, .unset, .unset, .unset, .unset] [(.long p1), (.ref bb_20), (.ref b26), (.ref b26)])) _
              refine XS.lload X26.here hx rfl (hb hby at_171) rfl ?_
              show Steps p.tables e below (T26.setTop (mkF m 173 #[.val (.int p0), .val (.int pp1), .val (.long jo1), .second, .val (.long jo2), .second, .val (.long jl1), .second, .val (.long jl2), .second, .val (.int n1), .val (.int x0), .val (.int x1), .val (.int n2), .val (.int y0), .val (.int y1), .val (.long p1), .second, .val (.long r1), .second, .val (.long p2), .second, .val (.long r2), .second, .val (.ref bb_20), .val (.ref bb_22), .unset, .unset, .unset, .unset, .unset] [(.long r1), (.long p1), (.ref bb_20), (.ref b26), (.ref b26)])) _
              refine st29.trans ?_
              show Steps p.tables e below (T29.setTop (mkF m 176 #[.val (.int p0), .val (.int pp1), .val (.long jo1), .second, .val (.long jo2), .second, .val (.long jl1), .second, .val (.long jl2), .second, .val (.int n1), .val (.int x0), .val (.int x1), .val (.int n2), .val (.int y0), .val (.int y1), .val (.long p1), .second, .val (.long r1), .second, .val (.long p2), .second, .val (.long r2), .second, .val (.ref bb_20), .val (.ref bb_22), .unset, .unset, .unset, .unset, .unset] [(.ref b26)])) _
              refine XS.astore Xr29.here hx rfl (hb hby at_176) rfl rfl (l' := #[.val (.int p0), .val (.int pp1), .val (.long jo1), .second, .val (.long jo2), .second, .val (.long jl1), .second, .val (.long jl2), .second, .val (.int n1), .val (.int x0), .val (.int x1), .val (.int n2), .val (.int y0), .val (.int y1), .val (.long p1), .second, .val (.long r1), .second, .val (.long p2), .second, .val (.long r2), .second, .val (.ref bb_20), .val (.ref bb_22), .val (.ref b26), .unset, .unset, .unset, .unset]) rfl ?_
              show Steps p.tables e below (T29.setTop (mkF m 178 #[.val (.int p0), .val (.int pp1), .val (.long jo1), .second, .val (.long jo2), .second, .val (.long jl1), .second, .val (.long jl2), .second, .val (.int n1), .val (.int x0), .val (.int x1), .val (.int n2), .val (.int y0), .val (.int y1), .val (.long p1), .second, .val (.long r1), .second, .val (.long p2), .second, .val (.long r2), .second, .val (.ref bb_20), .val (.ref bb_22), .val (.ref b26), .unset, .unset, .unset, .unset] [])) _
              refine st33 _ ?_
              show Steps p.tables e below (T33.setTop (mkF m 181 #[.val (.int p0), .val (.int pp1), .val (.long jo1), .second, .val (.long jo2), .second, .val (.long jl1), .second, .val (.long jl2), .second, .val (.int n1), .val (.int x0), .val (.int x1), .val (.int n2), .val (.int y0), .val (.int y1), .val (.long p1), .second, .val (.long r1), .second, .val (.long p2), .second, .val (.long r2), .second, .val (.ref bb_20), .val (.ref bb_22), .val (.ref b26), .unset, .unset, .unset, .unset] [(.ref b33)])) _
              refine XS.dup X33.here hx rfl (hb hby at_181) rfl rfl ?_
              show Steps p.tables e below (T33.setTop (mkF m 182 #[.val (.int p0), .val (.int pp1), .val (.long jo1), .second, .val (.long jo2), .second, .val (.long jl1), .second, .val (.long jl2), .second, .val (.int n1), .val (.int x0), .val (.int x1), .val (.int n2), .val (.int y0), .val (.int y1), .val (.long p1), .second, .val (.long r1), .second, .val (.long p2), .second, .val (.long r2), .second, .val (.ref bb_20), .val (.ref bb_22), .val (.ref b26), .unset, .unset, .unset, .unset] [(.ref b33), (.ref b33)])) _
              refine XS.aload X33.here hx rfl (hb hby at_182) rfl rfl ?_
              show Steps p.tables e below (T33.setTop (mkF m 184 #[.val (.int p0), .val (.int pp1), .val (.long jo1), .second, .val (.long jo2), .second, .val (.long jl1), .second, .val (.long jl2), .second, .val (.int n1), .val (.int x0), .val (.int x1), .val (.int n2), .val (.int y0), .val (.int y1), .val (.long p1), .second, .val (.long r1), .second, .val (.long p2), .second, .val (.long r2), .second, .val (.ref bb_20), .val (.ref bb_22), .val (.ref b26), .unset, .unset, .unset, .unset] [(.ref bb_22), (.ref b33), (.ref b33)])) _
              refine XS.lload X33.here hx rfl (hb hby at_184) rfl ?_
              show Steps p.tables e below (T33.setTop (mkF m 186 #[.val (.int p0), .val (.int pp1), .val (.long jo1), .second, .val (.long jo2), .second, .val (.long jl1), .second, .val (.long jl2), .second, .val (.int n1), .val (.int x0), .val (.int x1), .val (.int n2), .val (.int y0), .val (.int y1), .val (.long p1), .second, .val (.long r1), .second, .val (.long p2), .second, .val (.long r2), .second, .val (.ref bb_20), .val (.ref bb_22), .val (.ref b26), .unset, .unset, .unset, .unset] [(.long p2), (.ref bb_22), (.ref b33), (.ref b33)])) _
              refine XS.lload X33.here hx rfl (hb hby at_186) rfl ?_
              show Steps p.tables e below (T33.setTop (mkF m 188 #[.val (.int p0), .val (.int pp1), .val (.long jo1), .second, .val (.long jo2), .second, .val (.long jl1), .second, .val (.long jl2), .second, .val (.int n1), .val (.int x0), .val (.int x1), .val (.int n2), .val (.int y0), .val (.int y1), .val (.long p1), .second, .val (.long r1), .second, .val (.long p2), .second, .val (.long r2), .second, .val (.ref bb_20), .val (.ref bb_22), .val (.ref b26), .unset, .unset, .unset, .unset] [(.long r2), (.long p2), (.ref bb_22), (.ref b33), (.ref b33)])) _
              refine st36.trans ?_
              show Steps p.tables e below (T36.setTop (mkF m 191 #[.val (.int p0), .val (.int pp1), .val (.long jo1), .second, .val (.long jo2), .second, .val (.long jl1), .second, .val (.long jl2), .second, .val (.int n1), .val (.int x0), .val (.int x1), .val (.int n2), .val (.int y0), .val (.int y1), .val (.long p1), .second, .val (.long r1), .second, .val (.long p2), .second, .val (.long r2), .second, .val (.ref bb_20), .val (.ref bb_22), .val (.ref b26), .unset, .unset, .unset, .unset] [(.ref b33)])) _
              refine XS.astore Xr36.here hx rfl (hb hby at_191) rfl rfl (l' := #[.val (.int p0), .val (.int pp1), .val (.long jo1), .second, .val (.long jo2), .second, .val (.long jl1), .second, .val (.long jl2), .second, .val (.int n1), .val (.int x0), .val (.int x1), .val (.int n2), .val (.int y0), .val (.int y1), .val (.long p1), .second, .val (.long r1), .second, .val (.long p2), .second, .val (.long r2), .second, .val (.ref bb_20), .val (.ref bb_22), .val (.ref b26), .val (.ref b33), .unset, .unset, .unset]) rfl ?_
              show Steps p.tables e below (T36.setTop (mkF m 193 #[.val (.int p0), .val (.int pp1), .val (.long jo1), .second, .val (.long jo2), .second, .val (.long jl1), .second, .val (.long jl2), .second, .val (.int n1), .val (.int x0), .val (.int x1), .val (.int n2), .val (.int y0), .val (.int y1), .val (.long p1), .second, .val (.long r1), .second, .val (.long p2), .second, .val (.long r2), .second, .val (.ref bb_20), .val (.ref bb_22), .val (.ref b26), .val (.ref b33), .unset, .unset, .unset] [])) _
              refine XS.iloadN Xr36.here hx rfl (hb hby at_193) rfl ?_
              show Steps p.tables e below (T36.setTop (mkF m 194 #[.val (.int p0), .val (.int pp1), .val (.long jo1), .second, .val (.long jo2), .second, .val (.long jl1), .second, .val (.long jl2), .second, .val (.int n1), .val (.int x0), .val (.int x1), .val (.int n2), .val (.int y0), .val (.int y1), .val (.long p1), .second, .val (.long r1), .second, .val (.long p2), .second, .val (.long r2), .second, .val (.ref bb_20), .val (.ref bb_22), .val (.ref b26), .val (.ref b33), .unset, .unset, .unset] [(.int p0)])) _
              refine XS.bipush Xr36.here hx rfl (hb hby at_194) ?_
              show Steps p.tables e below (T36.setTop (mkF m 196 #[.val (.int p0), .val (.int pp1), .val (.long jo1), .second, .val (.long jo2), .second, .val (.long jl1), .second, .val (.long jl2), .second, .val (.int n1), .val (.int x0), .val (.int x1), .val (.int n2), .val (.int y0), .val (.int y1), .val (.long p1), .second, .val (.long r1), .second, .val (.long p2), .second, .val (.long r2), .second, .val (.ref bb_20), .val (.ref bb_22), .val (.ref b26), .val (.ref b33), .unset, .unset, .unset] [(.int (18 : Int32)), (.int p0)])) _
              refine XS.iushr Xr36.here hx rfl (hb hby at_196) rfl ?_
              show Steps p.tables e below (T36.setTop (mkF m 197 #[.val (.int p0), .val (.int pp1), .val (.long jo1), .second, .val (.long jo2), .second, .val (.long jl1), .second, .val (.long jl2), .second, .val (.int n1), .val (.int x0), .val (.int x1), .val (.int n2), .val (.int y0), .val (.int y1), .val (.long p1), .second, .val (.long r1), .second, .val (.long p2), .second, .val (.long r2), .second, .val (.ref bb_20), .val (.ref bb_22), .val (.ref b26), .val (.ref b33), .unset, .unset, .unset] [(.int ((p0.toUInt32 >>> ((18 : Int32) &&& 31).toUInt32).toInt32))])) _
              refine XS.bipush Xr36.here hx rfl (hb hby at_197) ?_
              show Steps p.tables e below (T36.setTop (mkF m 199 #[.val (.int p0), .val (.int pp1), .val (.long jo1), .second, .val (.long jo2), .second, .val (.long jl1), .second, .val (.long jl2), .second, .val (.int n1), .val (.int x0), .val (.int x1), .val (.int n2), .val (.int y0), .val (.int y1), .val (.long p1), .second, .val (.long r1), .second, .val (.long p2), .second, .val (.long r2), .second, .val (.ref bb_20), .val (.ref bb_22), .val (.ref b26), .val (.ref b33), .unset, .unset, .unset] [(.int (7 : Int32)), (.int ((p0.toUInt32 >>> ((18 : Int32) &&& 31).toUInt32).toInt32))])) _
              refine XS.iand Xr36.here hx rfl (hb hby at_199) rfl ?_
              show Steps p.tables e below (T36.setTop (mkF m 200 #[.val (.int p0), .val (.int pp1), .val (.long jo1), .second, .val (.long jo2), .second, .val (.long jl1), .second, .val (.long jl2), .second, .val (.int n1), .val (.int x0), .val (.int x1), .val (.int n2), .val (.int y0), .val (.int y1), .val (.long p1), .second, .val (.long r1), .second, .val (.long p2), .second, .val (.long r2), .second, .val (.ref bb_20), .val (.ref bb_22), .val (.ref b26), .val (.ref b33), .unset, .unset, .unset] [(.int (((p0.toUInt32 >>> ((18 : Int32) &&& 31).toUInt32).toInt32) &&& (7 : Int32)))])) _
              refine XS.istore Xr36.here hx rfl (hb hby at_200) rfl (l' := #[.val (.int p0), .val (.int pp1), .val (.long jo1), .second, .val (.long jo2), .second, .val (.long jl1), .second, .val (.long jl2), .second, .val (.int n1), .val (.int x0), .val (.int x1), .val (.int n2), .val (.int y0), .val (.int y1), .val (.long p1), .second, .val (.long r1), .second, .val (.long p2), .second, .val (.long r2), .second, .val (.ref bb_20), .val (.ref bb_22), .val (.ref b26), .val (.ref b33), .val (.int (((p0.toUInt32 >>> ((18 : Int32) &&& 31).toUInt32).toInt32) &&& (7 : Int32))), .unset, .unset]) rfl ?_
              show Steps p.tables e below (T36.setTop (mkF m 202 #[.val (.int p0), .val (.int pp1), .val (.long jo1), .second, .val (.long jo2), .second, .val (.long jl1), .second, .val (.long jl2), .second, .val (.int n1), .val (.int x0), .val (.int x1), .val (.int n2), .val (.int y0), .val (.int y1), .val (.long p1), .second, .val (.long r1), .second, .val (.long p2), .second, .val (.long r2), .second, .val (.ref bb_20), .val (.ref bb_22), .val (.ref b26), .val (.ref b33), .val (.int (((p0.toUInt32 >>> ((18 : Int32) &&& 31).toUInt32).toInt32) &&& (7 : Int32))), .unset, .unset] [])) _
              refine XS.iload Xr36.here hx rfl (hb hby at_202) rfl ?_
              show Steps p.tables e below (T36.setTop (mkF m 204 #[.val (.int p0), .val (.int pp1), .val (.long jo1), .second, .val (.long jo2), .second, .val (.long jl1), .second, .val (.long jl2), .second, .val (.int n1), .val (.int x0), .val (.int x1), .val (.int n2), .val (.int y0), .val (.int y1), .val (.long p1), .second, .val (.long r1), .second, .val (.long p2), .second, .val (.long r2), .second, .val (.ref bb_20), .val (.ref bb_22), .val (.ref b26), .val (.ref b33), .val (.int (((p0.toUInt32 >>> ((18 : Int32) &&& 31).toUInt32).toInt32) &&& (7 : Int32))), .unset, .unset] [(.int (((p0.toUInt32 >>> ((18 : Int32) &&& 31).toUInt32).toInt32) &&& (7 : Int32)))])) _
              refine XS.iconst Xr36.here hx rfl (hb hby at_204) ?_
              exact kt)
            by_cases hcx41 : (((p0.toUInt32 >>> ((18 : Int32) &&& 31).toUInt32).toInt32) &&& (7 : Int32)) = (5 : Int32)
            · skip
              have f43 : n0 ≤ T36.heap.size := (Nat.le_trans f37 Kq36.1)
              have f44 : Exa Z T36.heap b26 "com/example/multilingual_query_search/multilingualquerysearch/translation/DictdIndexEntry" := ((p29_0.ext E33).keep Kq36)
              obtain ⟨cq42, kq42, q42a, q42b, q42c⟩ := isOf hZ36 rfl f44
              obtain ⟨_, _, ⟨T42, L42, k42, n42⟩, -, X42, ⟨Lc42, hQ42, l42, y42, z42⟩, st42⟩ := Xr36.virtualBack hx (y := (⟨"com/example/multilingual_query_search/multilingualquerysearch/translation/DictdIndexEntry", "equals", "(Ljava/lang/Object;)Z"⟩ : MethodName)) (z := (⟨"com/example/multilingual_query_search/multilingualquerysearch/translation/DictdIndexEntry", "equals", "(Ljava/lang/Object;)Z"⟩ : MethodName)) hown36 (mvT hZ36 (own_k hw 45 rfl)) (mvT hZ36 (own_k hw 46 rfl)) (notFace_of_selects (args := #[]) (mvT hZ36 (own_k hw 48 rfl))) (mvT hZ36 (own_k hw 48 rfl)) (mvT hZ36 (own_k hw 47 rfl)) (by decide) (backOf (W := 0) (rmEq1 l Z a0 hw [] b26 T36.heap n0 f43 ) hZ36 (own_k hw 49 rfl) (own_k hw 29 rfl) (by decide) (by decide)) q42a q42c (g := (mkF m 212 #[.val (.int p0), .val (.int pp1), .val (.long jo1), .second, .val (.long jo2), .second, .val (.long jl1), .second, .val (.long jl2), .second, .val (.int n1), .val (.int x0), .val (.int x1), .val (.int n2), .val (.int y0), .val (.int y1), .val (.long p1), .second, .val (.long r1), .second, .val (.long p2), .second, .val (.long r2), .second, .val (.ref bb_20), .val (.ref bb_22), .val (.ref b26), .val (.ref b33), .val (.int (((p0.toUInt32 >>> ((18 : Int32) &&& 31).toUInt32).toInt32) &&& (7 : Int32))), .unset, .unset] [(.ref b26), (.ref b26)])) rfl (by rw [hml]; rfl) (Steps.refl _) (argsL := [(.ref b26)]) (rest := []) (lenOf own_pd_3 rfl) rfl (by show 2 * 0 + _ ≤ _; exact Nat.le_of_eq rfl) (hb hby at_212) (fun _ _ => ⟨rfl, rfl, (by decide : 14 + 0 ≤ _), (by decide : 94 + 0 ≤ _)⟩)
              dsimp only [Pt.U, Pt.locs, Pt.cells, Pt.slots] at X42 l42 y42 z42 st42 hQ42
              subst l42 y42 z42
              obtain ⟨Nq42, eh42, hv42⟩ := hQ42
              have N42 := Fr.app N36 Nq42
              subst hv42
              have hRe := R39.trans (CHv.at X42 hZ36 hEL R39.1)
              rw [← eh42] at hRe
              rw [← hh] at hRe
              obtain ⟨fs, hr, hrun, hended, hend⟩ := X42.leaveW hS36 (by rw [eh42]; exact Y36) (v := (some (.int (1 : Int32)))) (fun h => by rw [Bd.returns] at h; cases h)
              refine ⟨_, _, pre40 _ ?_, hrun, hended, _, _, rfl, ?_, hRe, hend.1, hend.2.1, hend.2.2.1, hend.2.2.2.mono (by decide) (by decide)⟩
              · show Steps p.tables e below (T36.setTop (mkF m 205 #[.val (.int p0), .val (.int pp1), .val (.long jo1), .second, .val (.long jo2), .second, .val (.long jl1), .second, .val (.long jl2), .second, .val (.int n1), .val (.int x0), .val (.int x1), .val (.int n2), .val (.int y0), .val (.int y1), .val (.long p1), .second, .val (.long r1), .second, .val (.long p2), .second, .val (.long r2), .second, .val (.ref bb_20), .val (.ref bb_22), .val (.ref b26), .val (.ref b33), .val (.int (((p0.toUInt32 >>> ((18 : Int32) &&& 31).toUInt32).toInt32) &&& (7 : Int32))), .unset, .unset] [(.int (5 : Int32)), (.int (((p0.toUInt32 >>> ((18 : Int32) &&& 31).toUInt32).toInt32) &&& (7 : Int32)))])) _
                refine XS.icmpNo Xr36.here hx rfl (hb hby at_205) rfl (teq hcx41).2 ?_
                show Steps p.tables e below (T36.setTop (mkF m 208 #[.val (.int p0), .val (.int pp1), .val (.long jo1), .second, .val (.long jo2), .second, .val (.long jl1), .second, .val (.long jl2), .second, .val (.int n1), .val (.int x0), .val (.int x1), .val (.int n2), .val (.int y0), .val (.int y1), .val (.long p1), .second, .val (.long r1), .second, .val (.long p2), .second, .val (.long r2), .second, .val (.ref bb_20), .val (.ref bb_22), .val (.ref b26), .val (.ref b33), .val (.int (((p0.toUInt32 >>> ((18 : Int32) &&& 31).toUInt32).toInt32) &&& (7 : Int32))), .unset, .unset] [])) _
                refine XS.aload Xr36.here hx rfl (hb hby at_208) rfl rfl ?_
                show Steps p.tables e below (T36.setTop (mkF m 210 #[.val (.int p0), .val (.int pp1), .val (.long jo1), .second, .val (.long jo2), .second, .val (.long jl1), .second, .val (.long jl2), .second, .val (.int n1), .val (.int x0), .val (.int x1), .val (.int n2), .val (.int y0), .val (.int y1), .val (.long p1), .second, .val (.long r1), .second, .val (.long p2), .second, .val (.long r2), .second, .val (.ref bb_20), .val (.ref bb_22), .val (.ref b26), .val (.ref b33), .val (.int (((p0.toUInt32 >>> ((18 : Int32) &&& 31).toUInt32).toInt32) &&& (7 : Int32))), .unset, .unset] [(.ref b26)])) _
                refine XS.aload Xr36.here hx rfl (hb hby at_210) rfl rfl ?_
                show Steps p.tables e below (T36.setTop (mkF m 212 #[.val (.int p0), .val (.int pp1), .val (.long jo1), .second, .val (.long jo2), .second, .val (.long jl1), .second, .val (.long jl2), .second, .val (.int n1), .val (.int x0), .val (.int x1), .val (.int n2), .val (.int y0), .val (.int y1), .val (.long p1), .second, .val (.long r1), .second, .val (.long p2), .second, .val (.long r2), .second, .val (.ref bb_20), .val (.ref bb_22), .val (.ref b26), .val (.ref b33), .val (.int (((p0.toUInt32 >>> ((18 : Int32) &&& 31).toUInt32).toInt32) &&& (7 : Int32))), .unset, .unset] [(.ref b26), (.ref b26)])) _
                refine st42.trans ?_
                show Steps p.tables e below (T42.setTop (mkF m 215 #[.val (.int p0), .val (.int pp1), .val (.long jo1), .second, .val (.long jo2), .second, .val (.long jl1), .second, .val (.long jl2), .second, .val (.int n1), .val (.int x0), .val (.int x1), .val (.int n2), .val (.int y0), .val (.int y1), .val (.long p1), .second, .val (.long r1), .second, .val (.long p2), .second, .val (.long r2), .second, .val (.ref bb_20), .val (.ref bb_22), .val (.ref b26), .val (.ref b33), .val (.int (((p0.toUInt32 >>> ((18 : Int32) &&& 31).toUInt32).toInt32) &&& (7 : Int32))), .unset, .unset] [(.int (1 : Int32))])) _
                exact retN X42 hx (t := .boolean) Bd.returns (by simp) (hb hby at_215) hr
              · show Q0 Z p0 pp1 jo1 jo2 jl1 jl2 G1 h0 n0 _ T42.heap _
                rw [eh42]
                exact ⟨N42, rfl⟩
            · skip
              have pre45 : ∀ t, Steps p.tables e below (T36.setTop (mkF m 220 #[.val (.int p0), .val (.int pp1), .val (.long jo1), .second, .val (.long jo2), .second, .val (.long jl1), .second, .val (.long jl2), .second, .val (.int n1), .val (.int x0), .val (.int x1), .val (.int n2), .val (.int y0), .val (.int y1), .val (.long p1), .second, .val (.long r1), .second, .val (.long p2), .second, .val (.long r2), .second, .val (.ref bb_20), .val (.ref bb_22), .val (.ref b26), .val (.ref b33), .val (.int (((p0.toUInt32 >>> ((18 : Int32) &&& 31).toUInt32).toInt32) &&& (7 : Int32))), .unset, .unset] [(.int (6 : Int32)), (.int (((p0.toUInt32 >>> ((18 : Int32) &&& 31).toUInt32).toInt32) &&& (7 : Int32)))])) t → Steps p.tables e below (s₁.setTop (entryFrame m #[(.int p0), (.int pp1), (.long jo1), (.long jo2), (.long jl1), (.long jl2)] maxLocals)) t := fun t kt => pre40 t (by
                show Steps p.tables e below (T36.setTop (mkF m 205 #[.val (.int p0), .val (.int pp1), .val (.long jo1), .second, .val (.long jo2), .second, .val (.long jl1), .second, .val (.long jl2), .second, .val (.int n1), .val (.int x0), .val (.int x1), .val (.int n2), .val (.int y0), .val (.int y1), .val (.long p1), .second, .val (.long r1), .second, .val (.long p2), .second, .val (.long r2), .second, .val (.ref bb_20), .val (.ref bb_22), .val (.ref b26), .val (.ref b33), .val (.int (((p0.toUInt32 >>> ((18 : Int32) &&& 31).toUInt32).toInt32) &&& (7 : Int32))), .unset, .unset] [(.int (5 : Int32)), (.int (((p0.toUInt32 >>> ((18 : Int32) &&& 31).toUInt32).toInt32) &&& (7 : Int32)))])) _
                refine XS.icmpYes Xr36.here hx rfl (pc0 := 205) (pc' := 216) rfl (hb hby at_205) rfl (feq hcx41).2 (by decide) (by decide) ?_
                show Steps p.tables e below (T36.setTop (mkF m 216 #[.val (.int p0), .val (.int pp1), .val (.long jo1), .second, .val (.long jo2), .second, .val (.long jl1), .second, .val (.long jl2), .second, .val (.int n1), .val (.int x0), .val (.int x1), .val (.int n2), .val (.int y0), .val (.int y1), .val (.long p1), .second, .val (.long r1), .second, .val (.long p2), .second, .val (.long r2), .second, .val (.ref bb_20), .val (.ref bb_22), .val (.ref b26), .val (.ref b33), .val (.int (((p0.toUInt32 >>> ((18 : Int32) &&& 31).toUInt32).toInt32) &&& (7 : Int32))), .unset, .unset] [])) _
                refine XS.iload Xr36.here hx rfl (hb hby at_216) rfl ?_
                show Steps p.tables e below (T36.setTop (mkF m 218 #[.val (.int p0), .val (.int pp1), .val (.long jo1), .second, .val (.long jo2), .second, .val (.long jl1), .second, .val (.long jl2), .second, .val (.int n1), .val (.int x0), .val (.int x1), .val (.int n2), .val (.int y0), .val (.int y1), .val (.long p1), .second, .val (.long r1), .second, .val (.long p2), .second, .val (.long r2), .second, .val (.ref bb_20), .val (.ref bb_22), .val (.ref b26), .val (.ref b33), .val (.int (((p0.toUInt32 >>> ((18 : Int32) &&& 31).toUInt32).toInt32) &&& (7 : Int32))), .unset, .unset] [(.int (((p0.toUInt32 >>> ((18 : Int32) &&& 31).toUInt32).toInt32) &&& (7 : Int32)))])) _
                refine XS.bipush Xr36.here hx rfl (hb hby at_218) ?_
                exact kt)
              by_cases hcx46 : (((p0.toUInt32 >>> ((18 : Int32) &&& 31).toUInt32).toInt32) &&& (7 : Int32)) = (6 : Int32)
              · skip
                have f48 : n0 ≤ T36.heap.size := (Nat.le_trans f37 Kq36.1)
                have f49 : Exa Z T36.heap b26 "com/example/multilingual_query_search/multilingualquerysearch/translation/DictdIndexEntry" := ((p29_0.ext E33).keep Kq36)
                obtain ⟨cq47, kq47, q47a, q47b, q47c⟩ := isOf hZ36 rfl f49
                obtain ⟨_, _, ⟨T47, L47, k47, n47⟩, -, X47, ⟨Lc47, hQ47, l47, y47, z47⟩, st47⟩ := Xr36.virtualBack hx (y := (⟨"com/example/multilingual_query_search/multilingualquerysearch/translation/DictdIndexEntry", "equals", "(Ljava/lang/Object;)Z"⟩ : MethodName)) (z := (⟨"com/example/multilingual_query_search/multilingualquerysearch/translation/DictdIndexEntry", "equals", "(Ljava/lang/Object;)Z"⟩ : MethodName)) hown36 (mvT hZ36 (own_k hw 45 rfl)) (mvT hZ36 (own_k hw 46 rfl)) (notFace_of_selects (args := #[]) (mvT hZ36 (own_k hw 48 rfl))) (mvT hZ36 (own_k hw 48 rfl)) (mvT hZ36 (own_k hw 47 rfl)) (by decide) (backOf (W := 0) (rmEq2 l Z a0 hw [] b26 T36.heap n0 f48 ) hZ36 (own_k hw 49 rfl) (own_k hw 29 rfl) (by decide) (by decide)) q47a q47c (g := (mkF m 226 #[.val (.int p0), .val (.int pp1), .val (.long jo1), .second, .val (.long jo2), .second, .val (.long jl1), .second, .val (.long jl2), .second, .val (.int n1), .val (.int x0), .val (.int x1), .val (.int n2), .val (.int y0), .val (.int y1), .val (.long p1), .second, .val (.long r1), .second, .val (.long p2), .second, .val (.long r2), .second, .val (.ref bb_20), .val (.ref bb_22), .val (.ref b26), .val (.ref b33), .val (.int (((p0.toUInt32 >>> ((18 : Int32) &&& 31).toUInt32).toInt32) &&& (7 : Int32))), .unset, .unset] [.null, (.ref b26)])) rfl (by rw [hml]; rfl) (Steps.refl _) (argsL := [.null]) (rest := []) (lenOf own_pd_3 rfl) rfl (by show 2 * 0 + _ ≤ _; exact Nat.le_of_eq rfl) (hb hby at_226) (fun _ _ => ⟨rfl, rfl, (by decide : 14 + 0 ≤ _), (by decide : 94 + 0 ≤ _)⟩)
                dsimp only [Pt.U, Pt.locs, Pt.cells, Pt.slots] at X47 l47 y47 z47 st47 hQ47
                subst l47 y47 z47
                obtain ⟨Nq47, eh47, hv47⟩ := hQ47
                have N47 := Fr.app N36 Nq47
                subst hv47
                have hRe := R39.trans (CHv.at X47 hZ36 hEL R39.1)
                rw [← eh47] at hRe
                rw [← hh] at hRe
                obtain ⟨fs, hr, hrun, hended, hend⟩ := X47.leaveW hS36 (by rw [eh47]; exact Y36) (v := (some (.int (1 : Int32)))) (fun h => by rw [Bd.returns] at h; cases h)
                refine ⟨_, _, pre45 _ ?_, hrun, hended, _, _, rfl, ?_, hRe, hend.1, hend.2.1, hend.2.2.1, hend.2.2.2.mono (by decide) (by decide)⟩
                · show Steps p.tables e below (T36.setTop (mkF m 220 #[.val (.int p0), .val (.int pp1), .val (.long jo1), .second, .val (.long jo2), .second, .val (.long jl1), .second, .val (.long jl2), .second, .val (.int n1), .val (.int x0), .val (.int x1), .val (.int n2), .val (.int y0), .val (.int y1), .val (.long p1), .second, .val (.long r1), .second, .val (.long p2), .second, .val (.long r2), .second, .val (.ref bb_20), .val (.ref bb_22), .val (.ref b26), .val (.ref b33), .val (.int (((p0.toUInt32 >>> ((18 : Int32) &&& 31).toUInt32).toInt32) &&& (7 : Int32))), .unset, .unset] [(.int (6 : Int32)), (.int (((p0.toUInt32 >>> ((18 : Int32) &&& 31).toUInt32).toInt32) &&& (7 : Int32)))])) _
                  refine XS.icmpNo Xr36.here hx rfl (hb hby at_220) rfl (teq hcx46).2 ?_
                  show Steps p.tables e below (T36.setTop (mkF m 223 #[.val (.int p0), .val (.int pp1), .val (.long jo1), .second, .val (.long jo2), .second, .val (.long jl1), .second, .val (.long jl2), .second, .val (.int n1), .val (.int x0), .val (.int x1), .val (.int n2), .val (.int y0), .val (.int y1), .val (.long p1), .second, .val (.long r1), .second, .val (.long p2), .second, .val (.long r2), .second, .val (.ref bb_20), .val (.ref bb_22), .val (.ref b26), .val (.ref b33), .val (.int (((p0.toUInt32 >>> ((18 : Int32) &&& 31).toUInt32).toInt32) &&& (7 : Int32))), .unset, .unset] [])) _
                  refine XS.aload Xr36.here hx rfl (hb hby at_223) rfl rfl ?_
                  show Steps p.tables e below (T36.setTop (mkF m 225 #[.val (.int p0), .val (.int pp1), .val (.long jo1), .second, .val (.long jo2), .second, .val (.long jl1), .second, .val (.long jl2), .second, .val (.int n1), .val (.int x0), .val (.int x1), .val (.int n2), .val (.int y0), .val (.int y1), .val (.long p1), .second, .val (.long r1), .second, .val (.long p2), .second, .val (.long r2), .second, .val (.ref bb_20), .val (.ref bb_22), .val (.ref b26), .val (.ref b33), .val (.int (((p0.toUInt32 >>> ((18 : Int32) &&& 31).toUInt32).toInt32) &&& (7 : Int32))), .unset, .unset] [(.ref b26)])) _
                  refine XS.aconstNull Xr36.here hx rfl (hb hby at_225) ?_
                  show Steps p.tables e below (T36.setTop (mkF m 226 #[.val (.int p0), .val (.int pp1), .val (.long jo1), .second, .val (.long jo2), .second, .val (.long jl1), .second, .val (.long jl2), .second, .val (.int n1), .val (.int x0), .val (.int x1), .val (.int n2), .val (.int y0), .val (.int y1), .val (.long p1), .second, .val (.long r1), .second, .val (.long p2), .second, .val (.long r2), .second, .val (.ref bb_20), .val (.ref bb_22), .val (.ref b26), .val (.ref b33), .val (.int (((p0.toUInt32 >>> ((18 : Int32) &&& 31).toUInt32).toInt32) &&& (7 : Int32))), .unset, .unset] [.null, (.ref b26)])) _
                  refine st47.trans ?_
                  show Steps p.tables e below (T47.setTop (mkF m 229 #[.val (.int p0), .val (.int pp1), .val (.long jo1), .second, .val (.long jo2), .second, .val (.long jl1), .second, .val (.long jl2), .second, .val (.int n1), .val (.int x0), .val (.int x1), .val (.int n2), .val (.int y0), .val (.int y1), .val (.long p1), .second, .val (.long r1), .second, .val (.long p2), .second, .val (.long r2), .second, .val (.ref bb_20), .val (.ref bb_22), .val (.ref b26), .val (.ref b33), .val (.int (((p0.toUInt32 >>> ((18 : Int32) &&& 31).toUInt32).toInt32) &&& (7 : Int32))), .unset, .unset] [(.int (0 : Int32))])) _
                  refine XS.ifNo X47.here hx rfl (hb hby at_229) rfl (by decide) ?_
                  show Steps p.tables e below (T47.setTop (mkF m 232 #[.val (.int p0), .val (.int pp1), .val (.long jo1), .second, .val (.long jo2), .second, .val (.long jl1), .second, .val (.long jl2), .second, .val (.int n1), .val (.int x0), .val (.int x1), .val (.int n2), .val (.int y0), .val (.int y1), .val (.long p1), .second, .val (.long r1), .second, .val (.long p2), .second, .val (.long r2), .second, .val (.ref bb_20), .val (.ref bb_22), .val (.ref b26), .val (.ref b33), .val (.int (((p0.toUInt32 >>> ((18 : Int32) &&& 31).toUInt32).toInt32) &&& (7 : Int32))), .unset, .unset] [])) _
                  refine XS.iconst X47.here hx rfl (hb hby at_232) ?_
                  show Steps p.tables e below (T47.setTop (mkF m 233 #[.val (.int p0), .val (.int pp1), .val (.long jo1), .second, .val (.long jo2), .second, .val (.long jl1), .second, .val (.long jl2), .second, .val (.int n1), .val (.int x0), .val (.int x1), .val (.int n2), .val (.int y0), .val (.int y1), .val (.long p1), .second, .val (.long r1), .second, .val (.long p2), .second, .val (.long r2), .second, .val (.ref bb_20), .val (.ref bb_22), .val (.ref b26), .val (.ref b33), .val (.int (((p0.toUInt32 >>> ((18 : Int32) &&& 31).toUInt32).toInt32) &&& (7 : Int32))), .unset, .unset] [(.int (1 : Int32))])) _
                  refine XS.goto X47.here hx rfl (pc0 := 233) (pc' := 237) rfl (hb hby at_233) (by decide) (by decide) ?_
                  show Steps p.tables e below (T47.setTop (mkF m 237 #[.val (.int p0), .val (.int pp1), .val (.long jo1), .second, .val (.long jo2), .second, .val (.long jl1), .second, .val (.long jl2), .second, .val (.int n1), .val (.int x0), .val (.int x1), .val (.int n2), .val (.int y0), .val (.int y1), .val (.long p1), .second, .val (.long r1), .second, .val (.long p2), .second, .val (.long r2), .second, .val (.ref bb_20), .val (.ref bb_22), .val (.ref b26), .val (.ref b33), .val (.int (((p0.toUInt32 >>> ((18 : Int32) &&& 31).toUInt32).toInt32) &&& (7 : Int32))), .unset, .unset] [(.int (1 : Int32))])) _
                  exact retN X47 hx (t := .boolean) Bd.returns (by simp) (hb hby at_237) hr
                · show Q0 Z p0 pp1 jo1 jo2 jl1 jl2 G1 h0 n0 _ T47.heap _
                  rw [eh47]
                  exact ⟨N47, rfl⟩
              · skip
                have pre50 : ∀ t, Steps p.tables e below (T36.setTop (mkF m 242 #[.val (.int p0), .val (.int pp1), .val (.long jo1), .second, .val (.long jo2), .second, .val (.long jl1), .second, .val (.long jl2), .second, .val (.int n1), .val (.int x0), .val (.int x1), .val (.int n2), .val (.int y0), .val (.int y1), .val (.long p1), .second, .val (.long r1), .second, .val (.long p2), .second, .val (.long r2), .second, .val (.ref bb_20), .val (.ref bb_22), .val (.ref b26), .val (.ref b33), .val (.int (((p0.toUInt32 >>> ((18 : Int32) &&& 31).toUInt32).toInt32) &&& (7 : Int32))), .unset, .unset] [(.int (7 : Int32)), (.int (((p0.toUInt32 >>> ((18 : Int32) &&& 31).toUInt32).toInt32) &&& (7 : Int32)))])) t → Steps p.tables e below (s₁.setTop (entryFrame m #[(.int p0), (.int pp1), (.long jo1), (.long jo2), (.long jl1), (.long jl2)] maxLocals)) t := fun t kt => pre45 t (by
                  show Steps p.tables e below (T36.setTop (mkF m 220 #[.val (.int p0), .val (.int pp1), .val (.long jo1), .second, .val (.long jo2), .second, .val (.long jl1), .second, .val (.long jl2), .second, .val (.int n1), .val (.int x0), .val (.int x1), .val (.int n2), .val (.int y0), .val (.int y1), .val (.long p1), .second, .val (.long r1), .second, .val (.long p2), .second, .val (.long r2), .second, .val (.ref bb_20), .val (.ref bb_22), .val (.ref b26), .val (.ref b33), .val (.int (((p0.toUInt32 >>> ((18 : Int32) &&& 31).toUInt32).toInt32) &&& (7 : Int32))), .unset, .unset] [(.int (6 : Int32)), (.int (((p0.toUInt32 >>> ((18 : Int32) &&& 31).toUInt32).toInt32) &&& (7 : Int32)))])) _
                  refine XS.icmpYes Xr36.here hx rfl (pc0 := 220) (pc' := 238) rfl (hb hby at_220) rfl (feq hcx46).2 (by decide) (by decide) ?_
                  show Steps p.tables e below (T36.setTop (mkF m 238 #[.val (.int p0), .val (.int pp1), .val (.long jo1), .second, .val (.long jo2), .second, .val (.long jl1), .second, .val (.long jl2), .second, .val (.int n1), .val (.int x0), .val (.int x1), .val (.int n2), .val (.int y0), .val (.int y1), .val (.long p1), .second, .val (.long r1), .second, .val (.long p2), .second, .val (.long r2), .second, .val (.ref bb_20), .val (.ref bb_22), .val (.ref b26), .val (.ref b33), .val (.int (((p0.toUInt32 >>> ((18 : Int32) &&& 31).toUInt32).toInt32) &&& (7 : Int32))), .unset, .unset] [])) _
                  refine XS.iload Xr36.here hx rfl (hb hby at_238) rfl ?_
                  show Steps p.tables e below (T36.setTop (mkF m 240 #[.val (.int p0), .val (.int pp1), .val (.long jo1), .second, .val (.long jo2), .second, .val (.long jl1), .second, .val (.long jl2), .second, .val (.int n1), .val (.int x0), .val (.int x1), .val (.int n2), .val (.int y0), .val (.int y1), .val (.long p1), .second, .val (.long r1), .second, .val (.long p2), .second, .val (.long r2), .second, .val (.ref bb_20), .val (.ref bb_22), .val (.ref b26), .val (.ref b33), .val (.int (((p0.toUInt32 >>> ((18 : Int32) &&& 31).toUInt32).toInt32) &&& (7 : Int32))), .unset, .unset] [(.int (((p0.toUInt32 >>> ((18 : Int32) &&& 31).toUInt32).toInt32) &&& (7 : Int32)))])) _
                  refine XS.bipush Xr36.here hx rfl (hb hby at_240) ?_
                  exact kt)
                by_cases hcx51 : (((p0.toUInt32 >>> ((18 : Int32) &&& 31).toUInt32).toInt32) &&& (7 : Int32)) = (7 : Int32)
                · skip
                  have f53 : Exa Z T36.heap bb_20 "java/lang/String" := (((((p20_1.keep Kq22).ext E26).keep Kq29).ext E33).keep Kq36)
                  have f54 : n0 ≤ T36.heap.size := (Nat.le_trans f37 Kq36.1)
                  have f55 : Exa Z T36.heap b26 "com/example/multilingual_query_search/multilingualquerysearch/translation/DictdIndexEntry" := ((p29_0.ext E33).keep Kq36)
                  obtain ⟨cq52, kq52, q52a, q52b, q52c⟩ := isOf hZ36 rfl f55
                  obtain ⟨_, _, ⟨T52, L52, k52, n52⟩, -, X52, ⟨Lc52, hQ52, l52, y52, z52⟩, st52⟩ := Xr36.virtualBack hx (y := (⟨"com/example/multilingual_query_search/multilingualquerysearch/translation/DictdIndexEntry", "equals", "(Ljava/lang/Object;)Z"⟩ : MethodName)) (z := (⟨"com/example/multilingual_query_search/multilingualquerysearch/translation/DictdIndexEntry", "equals", "(Ljava/lang/Object;)Z"⟩ : MethodName)) hown36 (mvT hZ36 (own_k hw 45 rfl)) (mvT hZ36 (own_k hw 46 rfl)) (notFace_of_selects (args := #[]) (mvT hZ36 (own_k hw 48 rfl))) (mvT hZ36 (own_k hw 48 rfl)) (mvT hZ36 (own_k hw 47 rfl)) (by decide) (backOf (W := 0) (rmEq3 l Z a0 hw [] b26 bb_20 T36.heap n0 f54 (Ne.symm (Nat.ne_of_lt (Nat.lt_of_lt_of_le (p20_1.keep Kq22).lt (Nat.le_of_eq g26.symm)))) f53) hZ36 (own_k hw 49 rfl) (own_k hw 29 rfl) (by decide) (by decide)) q52a q52c (g := (mkF m 249 #[.val (.int p0), .val (.int pp1), .val (.long jo1), .second, .val (.long jo2), .second, .val (.long jl1), .second, .val (.long jl2), .second, .val (.int n1), .val (.int x0), .val (.int x1), .val (.int n2), .val (.int y0), .val (.int y1), .val (.long p1), .second, .val (.long r1), .second, .val (.long p2), .second, .val (.long r2), .second, .val (.ref bb_20), .val (.ref bb_22), .val (.ref b26), .val (.ref b33), .val (.int (((p0.toUInt32 >>> ((18 : Int32) &&& 31).toUInt32).toInt32) &&& (7 : Int32))), .unset, .unset] [(.ref bb_20), (.ref b26)])) rfl (by rw [hml]; rfl) (Steps.refl _) (argsL := [(.ref bb_20)]) (rest := []) (lenOf own_pd_3 rfl) rfl (by show 2 * 0 + _ ≤ _; exact Nat.le_of_eq rfl) (hb hby at_249) (fun _ _ => ⟨rfl, rfl, (by decide : 14 + 0 ≤ _), (by decide : 94 + 0 ≤ _)⟩)
                  dsimp only [Pt.U, Pt.locs, Pt.cells, Pt.slots] at X52 l52 y52 z52 st52 hQ52
                  subst l52 y52 z52
                  obtain ⟨Nq52, eh52, hv52⟩ := hQ52
                  have N52 := Fr.app N36 Nq52
                  subst hv52
                  have hRe := R39.trans (CHv.at X52 hZ36 hEL R39.1)
                  rw [← eh52] at hRe
                  rw [← hh] at hRe
                  obtain ⟨fs, hr, hrun, hended, hend⟩ := X52.leaveW hS36 (by rw [eh52]; exact Y36) (v := (some (.int (1 : Int32)))) (fun h => by rw [Bd.returns] at h; cases h)
                  refine ⟨_, _, pre50 _ ?_, hrun, hended, _, _, rfl, ?_, hRe, hend.1, hend.2.1, hend.2.2.1, hend.2.2.2.mono (by decide) (by decide)⟩
                  · show Steps p.tables e below (T36.setTop (mkF m 242 #[.val (.int p0), .val (.int pp1), .val (.long jo1), .second, .val (.long jo2), .second, .val (.long jl1), .second, .val (.long jl2), .second, .val (.int n1), .val (.int x0), .val (.int x1), .val (.int n2), .val (.int y0), .val (.int y1), .val (.long p1), .second, .val (.long r1), .second, .val (.long p2), .second, .val (.long r2), .second, .val (.ref bb_20), .val (.ref bb_22), .val (.ref b26), .val (.ref b33), .val (.int (((p0.toUInt32 >>> ((18 : Int32) &&& 31).toUInt32).toInt32) &&& (7 : Int32))), .unset, .unset] [(.int (7 : Int32)), (.int (((p0.toUInt32 >>> ((18 : Int32) &&& 31).toUInt32).toInt32) &&& (7 : Int32)))])) _
                    refine XS.icmpNo Xr36.here hx rfl (hb hby at_242) rfl (teq hcx51).2 ?_
                    show Steps p.tables e below (T36.setTop (mkF m 245 #[.val (.int p0), .val (.int pp1), .val (.long jo1), .second, .val (.long jo2), .second, .val (.long jl1), .second, .val (.long jl2), .second, .val (.int n1), .val (.int x0), .val (.int x1), .val (.int n2), .val (.int y0), .val (.int y1), .val (.long p1), .second, .val (.long r1), .second, .val (.long p2), .second, .val (.long r2), .second, .val (.ref bb_20), .val (.ref bb_22), .val (.ref b26), .val (.ref b33), .val (.int (((p0.toUInt32 >>> ((18 : Int32) &&& 31).toUInt32).toInt32) &&& (7 : Int32))), .unset, .unset] [])) _
                    refine XS.aload Xr36.here hx rfl (hb hby at_245) rfl rfl ?_
                    show Steps p.tables e below (T36.setTop (mkF m 247 #[.val (.int p0), .val (.int pp1), .val (.long jo1), .second, .val (.long jo2), .second, .val (.long jl1), .second, .val (.long jl2), .second, .val (.int n1), .val (.int x0), .val (.int x1), .val (.int n2), .val (.int y0), .val (.int y1), .val (.long p1), .second, .val (.long r1), .second, .val (.long p2), .second, .val (.long r2), .second, .val (.ref bb_20), .val (.ref bb_22), .val (.ref b26), .val (.ref b33), .val (.int (((p0.toUInt32 >>> ((18 : Int32) &&& 31).toUInt32).toInt32) &&& (7 : Int32))), .unset, .unset] [(.ref b26)])) _
                    refine XS.aload Xr36.here hx rfl (hb hby at_247) rfl rfl ?_
                    show Steps p.tables e below (T36.setTop (mkF m 249 #[.val (.int p0), .val (.int pp1), .val (.long jo1), .second, .val (.long jo2), .second, .val (.long jl1), .second, .val (.long jl2), .second, .val (.int n1), .val (.int x0), .val (.int x1), .val (.int n2), .val (.int y0), .val (.int y1), .val (.long p1), .second, .val (.long r1), .second, .val (.long p2), .second, .val (.long r2), .second, .val (.ref bb_20), .val (.ref bb_22), .val (.ref b26), .val (.ref b33), .val (.int (((p0.toUInt32 >>> ((18 : Int32) &&& 31).toUInt32).toInt32) &&& (7 : Int32))), .unset, .unset] [(.ref bb_20), (.ref b26)])) _
                    refine st52.trans ?_
                    show Steps p.tables e below (T52.setTop (mkF m 252 #[.val (.int p0), .val (.int pp1), .val (.long jo1), .second, .val (.long jo2), .second, .val (.long jl1), .second, .val (.long jl2), .second, .val (.int n1), .val (.int x0), .val (.int x1), .val (.int n2), .val (.int y0), .val (.int y1), .val (.long p1), .second, .val (.long r1), .second, .val (.long p2), .second, .val (.long r2), .second, .val (.ref bb_20), .val (.ref bb_22), .val (.ref b26), .val (.ref b33), .val (.int (((p0.toUInt32 >>> ((18 : Int32) &&& 31).toUInt32).toInt32) &&& (7 : Int32))), .unset, .unset] [(.int (0 : Int32))])) _
                    refine XS.ifNo X52.here hx rfl (hb hby at_252) rfl (by decide) ?_
                    show Steps p.tables e below (T52.setTop (mkF m 255 #[.val (.int p0), .val (.int pp1), .val (.long jo1), .second, .val (.long jo2), .second, .val (.long jl1), .second, .val (.long jl2), .second, .val (.int n1), .val (.int x0), .val (.int x1), .val (.int n2), .val (.int y0), .val (.int y1), .val (.long p1), .second, .val (.long r1), .second, .val (.long p2), .second, .val (.long r2), .second, .val (.ref bb_20), .val (.ref bb_22), .val (.ref b26), .val (.ref b33), .val (.int (((p0.toUInt32 >>> ((18 : Int32) &&& 31).toUInt32).toInt32) &&& (7 : Int32))), .unset, .unset] [])) _
                    refine XS.iconst X52.here hx rfl (hb hby at_255) ?_
                    show Steps p.tables e below (T52.setTop (mkF m 256 #[.val (.int p0), .val (.int pp1), .val (.long jo1), .second, .val (.long jo2), .second, .val (.long jl1), .second, .val (.long jl2), .second, .val (.int n1), .val (.int x0), .val (.int x1), .val (.int n2), .val (.int y0), .val (.int y1), .val (.long p1), .second, .val (.long r1), .second, .val (.long p2), .second, .val (.long r2), .second, .val (.ref bb_20), .val (.ref bb_22), .val (.ref b26), .val (.ref b33), .val (.int (((p0.toUInt32 >>> ((18 : Int32) &&& 31).toUInt32).toInt32) &&& (7 : Int32))), .unset, .unset] [(.int (1 : Int32))])) _
                    refine XS.goto X52.here hx rfl (pc0 := 256) (pc' := 260) rfl (hb hby at_256) (by decide) (by decide) ?_
                    show Steps p.tables e below (T52.setTop (mkF m 260 #[.val (.int p0), .val (.int pp1), .val (.long jo1), .second, .val (.long jo2), .second, .val (.long jl1), .second, .val (.long jl2), .second, .val (.int n1), .val (.int x0), .val (.int x1), .val (.int n2), .val (.int y0), .val (.int y1), .val (.long p1), .second, .val (.long r1), .second, .val (.long p2), .second, .val (.long r2), .second, .val (.ref bb_20), .val (.ref bb_22), .val (.ref b26), .val (.ref b33), .val (.int (((p0.toUInt32 >>> ((18 : Int32) &&& 31).toUInt32).toInt32) &&& (7 : Int32))), .unset, .unset] [(.int (1 : Int32))])) _
                    exact retN X52 hx (t := .boolean) Bd.returns (by simp) (hb hby at_260) hr
                  · show Q0 Z p0 pp1 jo1 jo2 jl1 jl2 G1 h0 n0 _ T52.heap _
                    rw [eh52]
                    exact ⟨N52, rfl⟩
                · skip
                  have pre56 : ∀ t, Steps p.tables e below (T36.setTop (mkF m 261 #[.val (.int p0), .val (.int pp1), .val (.long jo1), .second, .val (.long jo2), .second, .val (.long jl1), .second, .val (.long jl2), .second, .val (.int n1), .val (.int x0), .val (.int x1), .val (.int n2), .val (.int y0), .val (.int y1), .val (.long p1), .second, .val (.long r1), .second, .val (.long p2), .second, .val (.long r2), .second, .val (.ref bb_20), .val (.ref bb_22), .val (.ref b26), .val (.ref b33), .val (.int (((p0.toUInt32 >>> ((18 : Int32) &&& 31).toUInt32).toInt32) &&& (7 : Int32))), .unset, .unset] [])) t → Steps p.tables e below (s₁.setTop (entryFrame m #[(.int p0), (.int pp1), (.long jo1), (.long jo2), (.long jl1), (.long jl2)] maxLocals)) t := fun t kt => pre50 t (by
                    show Steps p.tables e below (T36.setTop (mkF m 242 #[.val (.int p0), .val (.int pp1), .val (.long jo1), .second, .val (.long jo2), .second, .val (.long jl1), .second, .val (.long jl2), .second, .val (.int n1), .val (.int x0), .val (.int x1), .val (.int n2), .val (.int y0), .val (.int y1), .val (.long p1), .second, .val (.long r1), .second, .val (.long p2), .second, .val (.long r2), .second, .val (.ref bb_20), .val (.ref bb_22), .val (.ref b26), .val (.ref b33), .val (.int (((p0.toUInt32 >>> ((18 : Int32) &&& 31).toUInt32).toInt32) &&& (7 : Int32))), .unset, .unset] [(.int (7 : Int32)), (.int (((p0.toUInt32 >>> ((18 : Int32) &&& 31).toUInt32).toInt32) &&& (7 : Int32)))])) _
                    refine XS.icmpYes Xr36.here hx rfl (pc0 := 242) (pc' := 261) rfl (hb hby at_242) rfl (feq hcx51).2 (by decide) (by decide) ?_
                    exact kt)
                  refine cps (A := ∃ (b29 : Int32), ((b29 = (1 : Int32) ∧ (own_cs n1 x0 x1) = (own_cs n2 y0 y1)) ∨ (b29 = (0 : Int32) ∧ ¬ ((own_cs n1 x0 x1) = (own_cs n2 y0 y1)))) ∧ ∀ t, Steps p.tables e below (T36.setTop (mkF m 301 #[.val (.int p0), .val (.int pp1), .val (.long jo1), .second, .val (.long jo2), .second, .val (.long jl1), .second, .val (.long jl2), .second, .val (.int n1), .val (.int x0), .val (.int x1), .val (.int n2), .val (.int y0), .val (.int y1), .val (.long p1), .second, .val (.long r1), .second, .val (.long p2), .second, .val (.long r2), .second, .val (.ref bb_20), .val (.ref bb_22), .val (.ref b26), .val (.ref b33), .val (.int (((p0.toUInt32 >>> ((18 : Int32) &&& 31).toUInt32).toInt32) &&& (7 : Int32))), .val (.int b29), .unset] [])) t → Steps p.tables e below (s₁.setTop (entryFrame m #[(.int p0), (.int pp1), (.long jo1), (.long jo2), (.long jl1), (.long jl2)] maxLocals)) t) (fun kj57 => ?_) ?_
                  · skip
                    have pre58 : ∀ t, Steps p.tables e below (T36.setTop (mkF m 265 #[.val (.int p0), .val (.int pp1), .val (.long jo1), .second, .val (.long jo2), .second, .val (.long jl1), .second, .val (.long jl2), .second, .val (.int n1), .val (.int x0), .val (.int x1), .val (.int n2), .val (.int y0), .val (.int y1), .val (.long p1), .second, .val (.long r1), .second, .val (.long p2), .second, .val (.long r2), .second, .val (.ref bb_20), .val (.ref bb_22), .val (.ref b26), .val (.ref b33), .val (.int (((p0.toUInt32 >>> ((18 : Int32) &&& 31).toUInt32).toInt32) &&& (7 : Int32))), .unset, .unset] [(.int n2), (.int n1)])) t → Steps p.tables e below (s₁.setTop (entryFrame m #[(.int p0), (.int pp1), (.long jo1), (.long jo2), (.long jl1), (.long jl2)] maxLocals)) t := fun t kt => pre56 t (by
                      show Steps p.tables e below (T36.setTop (mkF m 261 #[.val (.int p0), .val (.int pp1), .val (.long jo1), .second, .val (.long jo2), .second, .val (.long jl1), .second, .val (.long jl2), .second, .val (.int n1), .val (.int x0), .val (.int x1), .val (.int n2), .val (.int y0), .val (.int y1), .val (.long p1), .second, .val (.long r1), .second, .val (.long p2), .second, .val (.long r2), .second, .val (.ref bb_20), .val (.ref bb_22), .val (.ref b26), .val (.ref b33), .val (.int (((p0.toUInt32 >>> ((18 : Int32) &&& 31).toUInt32).toInt32) &&& (7 : Int32))), .unset, .unset] [])) _
                      refine XS.iload Xr36.here hx rfl (hb hby at_261) rfl ?_
                      show Steps p.tables e below (T36.setTop (mkF m 263 #[.val (.int p0), .val (.int pp1), .val (.long jo1), .second, .val (.long jo2), .second, .val (.long jl1), .second, .val (.long jl2), .second, .val (.int n1), .val (.int x0), .val (.int x1), .val (.int n2), .val (.int y0), .val (.int y1), .val (.long p1), .second, .val (.long r1), .second, .val (.long p2), .second, .val (.long r2), .second, .val (.ref bb_20), .val (.ref bb_22), .val (.ref b26), .val (.ref b33), .val (.int (((p0.toUInt32 >>> ((18 : Int32) &&& 31).toUInt32).toInt32) &&& (7 : Int32))), .unset, .unset] [(.int n1)])) _
                      refine XS.iload Xr36.here hx rfl (hb hby at_263) rfl ?_
                      exact kt)
                    by_cases hcx59 : n1 = n2
                    · skip
                      have pre60 : ∀ t, Steps p.tables e below (T36.setTop (mkF m 271 #[.val (.int p0), .val (.int pp1), .val (.long jo1), .second, .val (.long jo2), .second, .val (.long jl1), .second, .val (.long jl2), .second, .val (.int n1), .val (.int x0), .val (.int x1), .val (.int n2), .val (.int y0), .val (.int y1), .val (.long p1), .second, .val (.long r1), .second, .val (.long p2), .second, .val (.long r2), .second, .val (.ref bb_20), .val (.ref bb_22), .val (.ref b26), .val (.ref b33), .val (.int (((p0.toUInt32 >>> ((18 : Int32) &&& 31).toUInt32).toInt32) &&& (7 : Int32))), .unset, .unset] [(.int (1 : Int32)), (.int n1)])) t → Steps p.tables e below (s₁.setTop (entryFrame m #[(.int p0), (.int pp1), (.long jo1), (.long jo2), (.long jl1), (.long jl2)] maxLocals)) t := fun t kt => pre58 t (by
                        show Steps p.tables e below (T36.setTop (mkF m 265 #[.val (.int p0), .val (.int pp1), .val (.long jo1), .second, .val (.long jo2), .second, .val (.long jl1), .second, .val (.long jl2), .second, .val (.int n1), .val (.int x0), .val (.int x1), .val (.int n2), .val (.int y0), .val (.int y1), .val (.long p1), .second, .val (.long r1), .second, .val (.long p2), .second, .val (.long r2), .second, .val (.ref bb_20), .val (.ref bb_22), .val (.ref b26), .val (.ref b33), .val (.int (((p0.toUInt32 >>> ((18 : Int32) &&& 31).toUInt32).toInt32) &&& (7 : Int32))), .unset, .unset] [(.int n2), (.int n1)])) _
                        refine XS.icmpNo Xr36.here hx rfl (hb hby at_265) rfl (teq hcx59).2 ?_
                        show Steps p.tables e below (T36.setTop (mkF m 268 #[.val (.int p0), .val (.int pp1), .val (.long jo1), .second, .val (.long jo2), .second, .val (.long jl1), .second, .val (.long jl2), .second, .val (.int n1), .val (.int x0), .val (.int x1), .val (.int n2), .val (.int y0), .val (.int y1), .val (.long p1), .second, .val (.long r1), .second, .val (.long p2), .second, .val (.long r2), .second, .val (.ref bb_20), .val (.ref bb_22), .val (.ref b26), .val (.ref b33), .val (.int (((p0.toUInt32 >>> ((18 : Int32) &&& 31).toUInt32).toInt32) &&& (7 : Int32))), .unset, .unset] [])) _
                        refine XS.iload Xr36.here hx rfl (hb hby at_268) rfl ?_
                        show Steps p.tables e below (T36.setTop (mkF m 270 #[.val (.int p0), .val (.int pp1), .val (.long jo1), .second, .val (.long jo2), .second, .val (.long jl1), .second, .val (.long jl2), .second, .val (.int n1), .val (.int x0), .val (.int x1), .val (.int n2), .val (.int y0), .val (.int y1), .val (.long p1), .second, .val (.long r1), .second, .val (.long p2), .second, .val (.long r2), .second, .val (.ref bb_20), .val (.ref bb_22), .val (.ref b26), .val (.ref b33), .val (.int (((p0.toUInt32 >>> ((18 : Int32) &&& 31).toUInt32).toInt32) &&& (7 : Int32))), .unset, .unset] [(.int n1)])) _
                        refine XS.iconst Xr36.here hx rfl (hb hby at_270) ?_
                        exact kt)
                      by_cases hcx61 : n1 < (1 : Int32)
                      · skip
                        have pre62 : ∀ t, Steps p.tables e below (T36.setTop (mkF m 284 #[.val (.int p0), .val (.int pp1), .val (.long jo1), .second, .val (.long jo2), .second, .val (.long jl1), .second, .val (.long jl2), .second, .val (.int n1), .val (.int x0), .val (.int x1), .val (.int n2), .val (.int y0), .val (.int y1), .val (.long p1), .second, .val (.long r1), .second, .val (.long p2), .second, .val (.long r2), .second, .val (.ref bb_20), .val (.ref bb_22), .val (.ref b26), .val (.ref b33), .val (.int (((p0.toUInt32 >>> ((18 : Int32) &&& 31).toUInt32).toInt32) &&& (7 : Int32))), .unset, .unset] [(.int (2 : Int32)), (.int n1)])) t → Steps p.tables e below (s₁.setTop (entryFrame m #[(.int p0), (.int pp1), (.long jo1), (.long jo2), (.long jl1), (.long jl2)] maxLocals)) t := fun t kt => pre60 t (by
                          show Steps p.tables e below (T36.setTop (mkF m 271 #[.val (.int p0), .val (.int pp1), .val (.long jo1), .second, .val (.long jo2), .second, .val (.long jl1), .second, .val (.long jl2), .second, .val (.int n1), .val (.int x0), .val (.int x1), .val (.int n2), .val (.int y0), .val (.int y1), .val (.long p1), .second, .val (.long r1), .second, .val (.long p2), .second, .val (.long r2), .second, .val (.ref bb_20), .val (.ref bb_22), .val (.ref b26), .val (.ref b33), .val (.int (((p0.toUInt32 >>> ((18 : Int32) &&& 31).toUInt32).toInt32) &&& (7 : Int32))), .unset, .unset] [(.int (1 : Int32)), (.int n1)])) _
                          refine XS.icmpYes Xr36.here hx rfl (pc0 := 271) (pc' := 281) rfl (hb hby at_271) rfl (tlt hcx61).1 (by decide) (by decide) ?_
                          show Steps p.tables e below (T36.setTop (mkF m 281 #[.val (.int p0), .val (.int pp1), .val (.long jo1), .second, .val (.long jo2), .second, .val (.long jl1), .second, .val (.long jl2), .second, .val (.int n1), .val (.int x0), .val (.int x1), .val (.int n2), .val (.int y0), .val (.int y1), .val (.long p1), .second, .val (.long r1), .second, .val (.long p2), .second, .val (.long r2), .second, .val (.ref bb_20), .val (.ref bb_22), .val (.ref b26), .val (.ref b33), .val (.int (((p0.toUInt32 >>> ((18 : Int32) &&& 31).toUInt32).toInt32) &&& (7 : Int32))), .unset, .unset] [])) _
                          refine XS.iload Xr36.here hx rfl (hb hby at_281) rfl ?_
                          show Steps p.tables e below (T36.setTop (mkF m 283 #[.val (.int p0), .val (.int pp1), .val (.long jo1), .second, .val (.long jo2), .second, .val (.long jl1), .second, .val (.long jl2), .second, .val (.int n1), .val (.int x0), .val (.int x1), .val (.int n2), .val (.int y0), .val (.int y1), .val (.long p1), .second, .val (.long r1), .second, .val (.long p2), .second, .val (.long r2), .second, .val (.ref bb_20), .val (.ref bb_22), .val (.ref b26), .val (.ref b33), .val (.int (((p0.toUInt32 >>> ((18 : Int32) &&& 31).toUInt32).toInt32) &&& (7 : Int32))), .unset, .unset] [(.int n1)])) _
                          refine XS.iconst Xr36.here hx rfl (hb hby at_283) ?_
                          exact kt)
                        by_cases hcx63 : n1 < (2 : Int32)
                        · skip
                          have pre64 : ∀ t, Steps p.tables e below (T36.setTop (mkF m 301 #[.val (.int p0), .val (.int pp1), .val (.long jo1), .second, .val (.long jo2), .second, .val (.long jl1), .second, .val (.long jl2), .second, .val (.int n1), .val (.int x0), .val (.int x1), .val (.int n2), .val (.int y0), .val (.int y1), .val (.long p1), .second, .val (.long r1), .second, .val (.long p2), .second, .val (.long r2), .second, .val (.ref bb_20), .val (.ref bb_22), .val (.ref b26), .val (.ref b33), .val (.int (((p0.toUInt32 >>> ((18 : Int32) &&& 31).toUInt32).toInt32) &&& (7 : Int32))), .val (.int (1 : Int32)), .unset] [])) t → Steps p.tables e below (s₁.setTop (entryFrame m #[(.int p0), (.int pp1), (.long jo1), (.long jo2), (.long jl1), (.long jl2)] maxLocals)) t := fun t kt => pre62 t (by
                            show Steps p.tables e below (T36.setTop (mkF m 284 #[.val (.int p0), .val (.int pp1), .val (.long jo1), .second, .val (.long jo2), .second, .val (.long jl1), .second, .val (.long jl2), .second, .val (.int n1), .val (.int x0), .val (.int x1), .val (.int n2), .val (.int y0), .val (.int y1), .val (.long p1), .second, .val (.long r1), .second, .val (.long p2), .second, .val (.long r2), .second, .val (.ref bb_20), .val (.ref bb_22), .val (.ref b26), .val (.ref b33), .val (.int (((p0.toUInt32 >>> ((18 : Int32) &&& 31).toUInt32).toInt32) &&& (7 : Int32))), .unset, .unset] [(.int (2 : Int32)), (.int n1)])) _
                            refine XS.icmpYes Xr36.here hx rfl (pc0 := 284) (pc' := 294) rfl (hb hby at_284) rfl (tlt hcx63).1 (by decide) (by decide) ?_
                            show Steps p.tables e below (T36.setTop (mkF m 294 #[.val (.int p0), .val (.int pp1), .val (.long jo1), .second, .val (.long jo2), .second, .val (.long jl1), .second, .val (.long jl2), .second, .val (.int n1), .val (.int x0), .val (.int x1), .val (.int n2), .val (.int y0), .val (.int y1), .val (.long p1), .second, .val (.long r1), .second, .val (.long p2), .second, .val (.long r2), .second, .val (.ref bb_20), .val (.ref bb_22), .val (.ref b26), .val (.ref b33), .val (.int (((p0.toUInt32 >>> ((18 : Int32) &&& 31).toUInt32).toInt32) &&& (7 : Int32))), .unset, .unset] [])) _
                            refine XS.iconst Xr36.here hx rfl (hb hby at_294) ?_
                            show Steps p.tables e below (T36.setTop (mkF m 295 #[.val (.int p0), .val (.int pp1), .val (.long jo1), .second, .val (.long jo2), .second, .val (.long jl1), .second, .val (.long jl2), .second, .val (.int n1), .val (.int x0), .val (.int x1), .val (.int n2), .val (.int y0), .val (.int y1), .val (.long p1), .second, .val (.long r1), .second, .val (.long p2), .second, .val (.long r2), .second, .val (.ref bb_20), .val (.ref bb_22), .val (.ref b26), .val (.ref b33), .val (.int (((p0.toUInt32 >>> ((18 : Int32) &&& 31).toUInt32).toInt32) &&& (7 : Int32))), .unset, .unset] [(.int (1 : Int32))])) _
                            refine XS.goto Xr36.here hx rfl (pc0 := 295) (pc' := 299) rfl (hb hby at_295) (by decide) (by decide) ?_
                            show Steps p.tables e below (T36.setTop (mkF m 299 #[.val (.int p0), .val (.int pp1), .val (.long jo1), .second, .val (.long jo2), .second, .val (.long jl1), .second, .val (.long jl2), .second, .val (.int n1), .val (.int x0), .val (.int x1), .val (.int n2), .val (.int y0), .val (.int y1), .val (.long p1), .second, .val (.long r1), .second, .val (.long p2), .second, .val (.long r2), .second, .val (.ref bb_20), .val (.ref bb_22), .val (.ref b26), .val (.ref b33), .val (.int (((p0.toUInt32 >>> ((18 : Int32) &&& 31).toUInt32).toInt32) &&& (7 : Int32))), .unset, .unset] [(.int (1 : Int32))])) _
                            refine XS.istore Xr36.here hx rfl (hb hby at_299) rfl (l' := #[.val (.int p0), .val (.int pp1), .val (.long jo1), .second, .val (.long jo2), .second, .val (.long jl1), .second, .val (.long jl2), .second, .val (.int n1), .val (.int x0), .val (.int x1), .val (.int n2), .val (.int y0), .val (.int y1), .val (.long p1), .second, .val (.long r1), .second, .val (.long p2), .second, .val (.long r2), .second, .val (.ref bb_20), .val (.ref bb_22), .val (.ref b26), .val (.ref b33), .val (.int (((p0.toUInt32 >>> ((18 : Int32) &&& 31).toUInt32).toInt32) &&& (7 : Int32))), .val (.int (1 : Int32)), .unset]) rfl ?_
                            exact kt)
                          exact kj57 ⟨(1 : Int32), (Or.inl ⟨rfl, (own_head hj_n1.1 hj_n2.1).mpr ⟨hcx59, Or.inl hcx61, Or.inl hcx63⟩⟩), pre64⟩
                        · skip
                          have pre65 : ∀ t, Steps p.tables e below (T36.setTop (mkF m 291 #[.val (.int p0), .val (.int pp1), .val (.long jo1), .second, .val (.long jo2), .second, .val (.long jl1), .second, .val (.long jl2), .second, .val (.int n1), .val (.int x0), .val (.int x1), .val (.int n2), .val (.int y0), .val (.int y1), .val (.long p1), .second, .val (.long r1), .second, .val (.long p2), .second, .val (.long r2), .second, .val (.ref bb_20), .val (.ref bb_22), .val (.ref b26), .val (.ref b33), .val (.int (((p0.toUInt32 >>> ((18 : Int32) &&& 31).toUInt32).toInt32) &&& (7 : Int32))), .unset, .unset] [(.int y1), (.int x1)])) t → Steps p.tables e below (s₁.setTop (entryFrame m #[(.int p0), (.int pp1), (.long jo1), (.long jo2), (.long jl1), (.long jl2)] maxLocals)) t := fun t kt => pre62 t (by
                            show Steps p.tables e below (T36.setTop (mkF m 284 #[.val (.int p0), .val (.int pp1), .val (.long jo1), .second, .val (.long jo2), .second, .val (.long jl1), .second, .val (.long jl2), .second, .val (.int n1), .val (.int x0), .val (.int x1), .val (.int n2), .val (.int y0), .val (.int y1), .val (.long p1), .second, .val (.long r1), .second, .val (.long p2), .second, .val (.long r2), .second, .val (.ref bb_20), .val (.ref bb_22), .val (.ref b26), .val (.ref b33), .val (.int (((p0.toUInt32 >>> ((18 : Int32) &&& 31).toUInt32).toInt32) &&& (7 : Int32))), .unset, .unset] [(.int (2 : Int32)), (.int n1)])) _
                            refine XS.icmpNo Xr36.here hx rfl (hb hby at_284) rfl (flt hcx63).1 ?_
                            show Steps p.tables e below (T36.setTop (mkF m 287 #[.val (.int p0), .val (.int pp1), .val (.long jo1), .second, .val (.long jo2), .second, .val (.long jl1), .second, .val (.long jl2), .second, .val (.int n1), .val (.int x0), .val (.int x1), .val (.int n2), .val (.int y0), .val (.int y1), .val (.long p1), .second, .val (.long r1), .second, .val (.long p2), .second, .val (.long r2), .second, .val (.ref bb_20), .val (.ref bb_22), .val (.ref b26), .val (.ref b33), .val (.int (((p0.toUInt32 >>> ((18 : Int32) &&& 31).toUInt32).toInt32) &&& (7 : Int32))), .unset, .unset] [])) _
                            refine XS.iload Xr36.here hx rfl (hb hby at_287) rfl ?_
                            show Steps p.tables e below (T36.setTop (mkF m 289 #[.val (.int p0), .val (.int pp1), .val (.long jo1), .second, .val (.long jo2), .second, .val (.long jl1), .second, .val (.long jl2), .second, .val (.int n1), .val (.int x0), .val (.int x1), .val (.int n2), .val (.int y0), .val (.int y1), .val (.long p1), .second, .val (.long r1), .second, .val (.long p2), .second, .val (.long r2), .second, .val (.ref bb_20), .val (.ref bb_22), .val (.ref b26), .val (.ref b33), .val (.int (((p0.toUInt32 >>> ((18 : Int32) &&& 31).toUInt32).toInt32) &&& (7 : Int32))), .unset, .unset] [(.int x1)])) _
                            refine XS.iload Xr36.here hx rfl (hb hby at_289) rfl ?_
                            exact kt)
                          by_cases hcx66 : x1 = y1
                          · skip
                            have pre67 : ∀ t, Steps p.tables e below (T36.setTop (mkF m 301 #[.val (.int p0), .val (.int pp1), .val (.long jo1), .second, .val (.long jo2), .second, .val (.long jl1), .second, .val (.long jl2), .second, .val (.int n1), .val (.int x0), .val (.int x1), .val (.int n2), .val (.int y0), .val (.int y1), .val (.long p1), .second, .val (.long r1), .second, .val (.long p2), .second, .val (.long r2), .second, .val (.ref bb_20), .val (.ref bb_22), .val (.ref b26), .val (.ref b33), .val (.int (((p0.toUInt32 >>> ((18 : Int32) &&& 31).toUInt32).toInt32) &&& (7 : Int32))), .val (.int (1 : Int32)), .unset] [])) t → Steps p.tables e below (s₁.setTop (entryFrame m #[(.int p0), (.int pp1), (.long jo1), (.long jo2), (.long jl1), (.long jl2)] maxLocals)) t := fun t kt => pre65 t (by
                              show Steps p.tables e below (T36.setTop (mkF m 291 #[.val (.int p0), .val (.int pp1), .val (.long jo1), .second, .val (.long jo2), .second, .val (.long jl1), .second, .val (.long jl2), .second, .val (.int n1), .val (.int x0), .val (.int x1), .val (.int n2), .val (.int y0), .val (.int y1), .val (.long p1), .second, .val (.long r1), .second, .val (.long p2), .second, .val (.long r2), .second, .val (.ref bb_20), .val (.ref bb_22), .val (.ref b26), .val (.ref b33), .val (.int (((p0.toUInt32 >>> ((18 : Int32) &&& 31).toUInt32).toInt32) &&& (7 : Int32))), .unset, .unset] [(.int y1), (.int x1)])) _
                              refine XS.icmpNo Xr36.here hx rfl (hb hby at_291) rfl (teq hcx66).2 ?_
                              show Steps p.tables e below (T36.setTop (mkF m 294 #[.val (.int p0), .val (.int pp1), .val (.long jo1), .second, .val (.long jo2), .second, .val (.long jl1), .second, .val (.long jl2), .second, .val (.int n1), .val (.int x0), .val (.int x1), .val (.int n2), .val (.int y0), .val (.int y1), .val (.long p1), .second, .val (.long r1), .second, .val (.long p2), .second, .val (.long r2), .second, .val (.ref bb_20), .val (.ref bb_22), .val (.ref b26), .val (.ref b33), .val (.int (((p0.toUInt32 >>> ((18 : Int32) &&& 31).toUInt32).toInt32) &&& (7 : Int32))), .unset, .unset] [])) _
                              refine XS.iconst Xr36.here hx rfl (hb hby at_294) ?_
                              show Steps p.tables e below (T36.setTop (mkF m 295 #[.val (.int p0), .val (.int pp1), .val (.long jo1), .second, .val (.long jo2), .second, .val (.long jl1), .second, .val (.long jl2), .second, .val (.int n1), .val (.int x0), .val (.int x1), .val (.int n2), .val (.int y0), .val (.int y1), .val (.long p1), .second, .val (.long r1), .second, .val (.long p2), .second, .val (.long r2), .second, .val (.ref bb_20), .val (.ref bb_22), .val (.ref b26), .val (.ref b33), .val (.int (((p0.toUInt32 >>> ((18 : Int32) &&& 31).toUInt32).toInt32) &&& (7 : Int32))), .unset, .unset] [(.int (1 : Int32))])) _
                              refine XS.goto Xr36.here hx rfl (pc0 := 295) (pc' := 299) rfl (hb hby at_295) (by decide) (by decide) ?_
                              show Steps p.tables e below (T36.setTop (mkF m 299 #[.val (.int p0), .val (.int pp1), .val (.long jo1), .second, .val (.long jo2), .second, .val (.long jl1), .second, .val (.long jl2), .second, .val (.int n1), .val (.int x0), .val (.int x1), .val (.int n2), .val (.int y0), .val (.int y1), .val (.long p1), .second, .val (.long r1), .second, .val (.long p2), .second, .val (.long r2), .second, .val (.ref bb_20), .val (.ref bb_22), .val (.ref b26), .val (.ref b33), .val (.int (((p0.toUInt32 >>> ((18 : Int32) &&& 31).toUInt32).toInt32) &&& (7 : Int32))), .unset, .unset] [(.int (1 : Int32))])) _
                              refine XS.istore Xr36.here hx rfl (hb hby at_299) rfl (l' := #[.val (.int p0), .val (.int pp1), .val (.long jo1), .second, .val (.long jo2), .second, .val (.long jl1), .second, .val (.long jl2), .second, .val (.int n1), .val (.int x0), .val (.int x1), .val (.int n2), .val (.int y0), .val (.int y1), .val (.long p1), .second, .val (.long r1), .second, .val (.long p2), .second, .val (.long r2), .second, .val (.ref bb_20), .val (.ref bb_22), .val (.ref b26), .val (.ref b33), .val (.int (((p0.toUInt32 >>> ((18 : Int32) &&& 31).toUInt32).toInt32) &&& (7 : Int32))), .val (.int (1 : Int32)), .unset]) rfl ?_
                              exact kt)
                            exact kj57 ⟨(1 : Int32), (Or.inl ⟨rfl, (own_head hj_n1.1 hj_n2.1).mpr ⟨hcx59, Or.inl hcx61, Or.inr hcx66⟩⟩), pre67⟩
                          · skip
                            have pre68 : ∀ t, Steps p.tables e below (T36.setTop (mkF m 301 #[.val (.int p0), .val (.int pp1), .val (.long jo1), .second, .val (.long jo2), .second, .val (.long jl1), .second, .val (.long jl2), .second, .val (.int n1), .val (.int x0), .val (.int x1), .val (.int n2), .val (.int y0), .val (.int y1), .val (.long p1), .second, .val (.long r1), .second, .val (.long p2), .second, .val (.long r2), .second, .val (.ref bb_20), .val (.ref bb_22), .val (.ref b26), .val (.ref b33), .val (.int (((p0.toUInt32 >>> ((18 : Int32) &&& 31).toUInt32).toInt32) &&& (7 : Int32))), .val (.int (0 : Int32)), .unset] [])) t → Steps p.tables e below (s₁.setTop (entryFrame m #[(.int p0), (.int pp1), (.long jo1), (.long jo2), (.long jl1), (.long jl2)] maxLocals)) t := fun t kt => pre65 t (by
                              show Steps p.tables e below (T36.setTop (mkF m 291 #[.val (.int p0), .val (.int pp1), .val (.long jo1), .second, .val (.long jo2), .second, .val (.long jl1), .second, .val (.long jl2), .second, .val (.int n1), .val (.int x0), .val (.int x1), .val (.int n2), .val (.int y0), .val (.int y1), .val (.long p1), .second, .val (.long r1), .second, .val (.long p2), .second, .val (.long r2), .second, .val (.ref bb_20), .val (.ref bb_22), .val (.ref b26), .val (.ref b33), .val (.int (((p0.toUInt32 >>> ((18 : Int32) &&& 31).toUInt32).toInt32) &&& (7 : Int32))), .unset, .unset] [(.int y1), (.int x1)])) _
                              refine XS.icmpYes Xr36.here hx rfl (pc0 := 291) (pc' := 298) rfl (hb hby at_291) rfl (feq hcx66).2 (by decide) (by decide) ?_
                              show Steps p.tables e below (T36.setTop (mkF m 298 #[.val (.int p0), .val (.int pp1), .val (.long jo1), .second, .val (.long jo2), .second, .val (.long jl1), .second, .val (.long jl2), .second, .val (.int n1), .val (.int x0), .val (.int x1), .val (.int n2), .val (.int y0), .val (.int y1), .val (.long p1), .second, .val (.long r1), .second, .val (.long p2), .second, .val (.long r2), .second, .val (.ref bb_20), .val (.ref bb_22), .val (.ref b26), .val (.ref b33), .val (.int (((p0.toUInt32 >>> ((18 : Int32) &&& 31).toUInt32).toInt32) &&& (7 : Int32))), .unset, .unset] [])) _
                              refine XS.iconst Xr36.here hx rfl (hb hby at_298) ?_
                              show Steps p.tables e below (T36.setTop (mkF m 299 #[.val (.int p0), .val (.int pp1), .val (.long jo1), .second, .val (.long jo2), .second, .val (.long jl1), .second, .val (.long jl2), .second, .val (.int n1), .val (.int x0), .val (.int x1), .val (.int n2), .val (.int y0), .val (.int y1), .val (.long p1), .second, .val (.long r1), .second, .val (.long p2), .second, .val (.long r2), .second, .val (.ref bb_20), .val (.ref bb_22), .val (.ref b26), .val (.ref b33), .val (.int (((p0.toUInt32 >>> ((18 : Int32) &&& 31).toUInt32).toInt32) &&& (7 : Int32))), .unset, .unset] [(.int (0 : Int32))])) _
                              refine XS.istore Xr36.here hx rfl (hb hby at_299) rfl (l' := #[.val (.int p0), .val (.int pp1), .val (.long jo1), .second, .val (.long jo2), .second, .val (.long jl1), .second, .val (.long jl2), .second, .val (.int n1), .val (.int x0), .val (.int x1), .val (.int n2), .val (.int y0), .val (.int y1), .val (.long p1), .second, .val (.long r1), .second, .val (.long p2), .second, .val (.long r2), .second, .val (.ref bb_20), .val (.ref bb_22), .val (.ref b26), .val (.ref b33), .val (.int (((p0.toUInt32 >>> ((18 : Int32) &&& 31).toUInt32).toInt32) &&& (7 : Int32))), .val (.int (0 : Int32)), .unset]) rfl ?_
                              exact kt)
                            exact kj57 ⟨(0 : Int32), (Or.inr ⟨rfl, fun q => ((own_head hj_n1.1 hj_n2.1).mp q).2.2.elim hcx63 hcx66⟩), pre68⟩
                      · skip
                        have pre69 : ∀ t, Steps p.tables e below (T36.setTop (mkF m 278 #[.val (.int p0), .val (.int pp1), .val (.long jo1), .second, .val (.long jo2), .second, .val (.long jl1), .second, .val (.long jl2), .second, .val (.int n1), .val (.int x0), .val (.int x1), .val (.int n2), .val (.int y0), .val (.int y1), .val (.long p1), .second, .val (.long r1), .second, .val (.long p2), .second, .val (.long r2), .second, .val (.ref bb_20), .val (.ref bb_22), .val (.ref b26), .val (.ref b33), .val (.int (((p0.toUInt32 >>> ((18 : Int32) &&& 31).toUInt32).toInt32) &&& (7 : Int32))), .unset, .unset] [(.int y0), (.int x0)])) t → Steps p.tables e below (s₁.setTop (entryFrame m #[(.int p0), (.int pp1), (.long jo1), (.long jo2), (.long jl1), (.long jl2)] maxLocals)) t := fun t kt => pre60 t (by
                          show Steps p.tables e below (T36.setTop (mkF m 271 #[.val (.int p0), .val (.int pp1), .val (.long jo1), .second, .val (.long jo2), .second, .val (.long jl1), .second, .val (.long jl2), .second, .val (.int n1), .val (.int x0), .val (.int x1), .val (.int n2), .val (.int y0), .val (.int y1), .val (.long p1), .second, .val (.long r1), .second, .val (.long p2), .second, .val (.long r2), .second, .val (.ref bb_20), .val (.ref bb_22), .val (.ref b26), .val (.ref b33), .val (.int (((p0.toUInt32 >>> ((18 : Int32) &&& 31).toUInt32).toInt32) &&& (7 : Int32))), .unset, .unset] [(.int (1 : Int32)), (.int n1)])) _
                          refine XS.icmpNo Xr36.here hx rfl (hb hby at_271) rfl (flt hcx61).1 ?_
                          show Steps p.tables e below (T36.setTop (mkF m 274 #[.val (.int p0), .val (.int pp1), .val (.long jo1), .second, .val (.long jo2), .second, .val (.long jl1), .second, .val (.long jl2), .second, .val (.int n1), .val (.int x0), .val (.int x1), .val (.int n2), .val (.int y0), .val (.int y1), .val (.long p1), .second, .val (.long r1), .second, .val (.long p2), .second, .val (.long r2), .second, .val (.ref bb_20), .val (.ref bb_22), .val (.ref b26), .val (.ref b33), .val (.int (((p0.toUInt32 >>> ((18 : Int32) &&& 31).toUInt32).toInt32) &&& (7 : Int32))), .unset, .unset] [])) _
                          refine XS.iload Xr36.here hx rfl (hb hby at_274) rfl ?_
                          show Steps p.tables e below (T36.setTop (mkF m 276 #[.val (.int p0), .val (.int pp1), .val (.long jo1), .second, .val (.long jo2), .second, .val (.long jl1), .second, .val (.long jl2), .second, .val (.int n1), .val (.int x0), .val (.int x1), .val (.int n2), .val (.int y0), .val (.int y1), .val (.long p1), .second, .val (.long r1), .second, .val (.long p2), .second, .val (.long r2), .second, .val (.ref bb_20), .val (.ref bb_22), .val (.ref b26), .val (.ref b33), .val (.int (((p0.toUInt32 >>> ((18 : Int32) &&& 31).toUInt32).toInt32) &&& (7 : Int32))), .unset, .unset] [(.int x0)])) _
                          refine XS.iload Xr36.here hx rfl (hb hby at_276) rfl ?_
                          exact kt)
                        by_cases hcx70 : x0 = y0
                        · skip
                          have pre71 : ∀ t, Steps p.tables e below (T36.setTop (mkF m 284 #[.val (.int p0), .val (.int pp1), .val (.long jo1), .second, .val (.long jo2), .second, .val (.long jl1), .second, .val (.long jl2), .second, .val (.int n1), .val (.int x0), .val (.int x1), .val (.int n2), .val (.int y0), .val (.int y1), .val (.long p1), .second, .val (.long r1), .second, .val (.long p2), .second, .val (.long r2), .second, .val (.ref bb_20), .val (.ref bb_22), .val (.ref b26), .val (.ref b33), .val (.int (((p0.toUInt32 >>> ((18 : Int32) &&& 31).toUInt32).toInt32) &&& (7 : Int32))), .unset, .unset] [(.int (2 : Int32)), (.int n1)])) t → Steps p.tables e below (s₁.setTop (entryFrame m #[(.int p0), (.int pp1), (.long jo1), (.long jo2), (.long jl1), (.long jl2)] maxLocals)) t := fun t kt => pre69 t (by
                            show Steps p.tables e below (T36.setTop (mkF m 278 #[.val (.int p0), .val (.int pp1), .val (.long jo1), .second, .val (.long jo2), .second, .val (.long jl1), .second, .val (.long jl2), .second, .val (.int n1), .val (.int x0), .val (.int x1), .val (.int n2), .val (.int y0), .val (.int y1), .val (.long p1), .second, .val (.long r1), .second, .val (.long p2), .second, .val (.long r2), .second, .val (.ref bb_20), .val (.ref bb_22), .val (.ref b26), .val (.ref b33), .val (.int (((p0.toUInt32 >>> ((18 : Int32) &&& 31).toUInt32).toInt32) &&& (7 : Int32))), .unset, .unset] [(.int y0), (.int x0)])) _
                            refine XS.icmpNo Xr36.here hx rfl (hb hby at_278) rfl (teq hcx70).2 ?_
                            show Steps p.tables e below (T36.setTop (mkF m 281 #[.val (.int p0), .val (.int pp1), .val (.long jo1), .second, .val (.long jo2), .second, .val (.long jl1), .second, .val (.long jl2), .second, .val (.int n1), .val (.int x0), .val (.int x1), .val (.int n2), .val (.int y0), .val (.int y1), .val (.long p1), .second, .val (.long r1), .second, .val (.long p2), .second, .val (.long r2), .second, .val (.ref bb_20), .val (.ref bb_22), .val (.ref b26), .val (.ref b33), .val (.int (((p0.toUInt32 >>> ((18 : Int32) &&& 31).toUInt32).toInt32) &&& (7 : Int32))), .unset, .unset] [])) _
                            refine XS.iload Xr36.here hx rfl (hb hby at_281) rfl ?_
                            show Steps p.tables e below (T36.setTop (mkF m 283 #[.val (.int p0), .val (.int pp1), .val (.long jo1), .second, .val (.long jo2), .second, .val (.long jl1), .second, .val (.long jl2), .second, .val (.int n1), .val (.int x0), .val (.int x1), .val (.int n2), .val (.int y0), .val (.int y1), .val (.long p1), .second, .val (.long r1), .second, .val (.long p2), .second, .val (.long r2), .second, .val (.ref bb_20), .val (.ref bb_22), .val (.ref b26), .val (.ref b33), .val (.int (((p0.toUInt32 >>> ((18 : Int32) &&& 31).toUInt32).toInt32) &&& (7 : Int32))), .unset, .unset] [(.int n1)])) _
                            refine XS.iconst Xr36.here hx rfl (hb hby at_283) ?_
                            exact kt)
                          by_cases hcx72 : n1 < (2 : Int32)
                          · skip
                            have pre73 : ∀ t, Steps p.tables e below (T36.setTop (mkF m 301 #[.val (.int p0), .val (.int pp1), .val (.long jo1), .second, .val (.long jo2), .second, .val (.long jl1), .second, .val (.long jl2), .second, .val (.int n1), .val (.int x0), .val (.int x1), .val (.int n2), .val (.int y0), .val (.int y1), .val (.long p1), .second, .val (.long r1), .second, .val (.long p2), .second, .val (.long r2), .second, .val (.ref bb_20), .val (.ref bb_22), .val (.ref b26), .val (.ref b33), .val (.int (((p0.toUInt32 >>> ((18 : Int32) &&& 31).toUInt32).toInt32) &&& (7 : Int32))), .val (.int (1 : Int32)), .unset] [])) t → Steps p.tables e below (s₁.setTop (entryFrame m #[(.int p0), (.int pp1), (.long jo1), (.long jo2), (.long jl1), (.long jl2)] maxLocals)) t := fun t kt => pre71 t (by
                              show Steps p.tables e below (T36.setTop (mkF m 284 #[.val (.int p0), .val (.int pp1), .val (.long jo1), .second, .val (.long jo2), .second, .val (.long jl1), .second, .val (.long jl2), .second, .val (.int n1), .val (.int x0), .val (.int x1), .val (.int n2), .val (.int y0), .val (.int y1), .val (.long p1), .second, .val (.long r1), .second, .val (.long p2), .second, .val (.long r2), .second, .val (.ref bb_20), .val (.ref bb_22), .val (.ref b26), .val (.ref b33), .val (.int (((p0.toUInt32 >>> ((18 : Int32) &&& 31).toUInt32).toInt32) &&& (7 : Int32))), .unset, .unset] [(.int (2 : Int32)), (.int n1)])) _
                              refine XS.icmpYes Xr36.here hx rfl (pc0 := 284) (pc' := 294) rfl (hb hby at_284) rfl (tlt hcx72).1 (by decide) (by decide) ?_
                              show Steps p.tables e below (T36.setTop (mkF m 294 #[.val (.int p0), .val (.int pp1), .val (.long jo1), .second, .val (.long jo2), .second, .val (.long jl1), .second, .val (.long jl2), .second, .val (.int n1), .val (.int x0), .val (.int x1), .val (.int n2), .val (.int y0), .val (.int y1), .val (.long p1), .second, .val (.long r1), .second, .val (.long p2), .second, .val (.long r2), .second, .val (.ref bb_20), .val (.ref bb_22), .val (.ref b26), .val (.ref b33), .val (.int (((p0.toUInt32 >>> ((18 : Int32) &&& 31).toUInt32).toInt32) &&& (7 : Int32))), .unset, .unset] [])) _
                              refine XS.iconst Xr36.here hx rfl (hb hby at_294) ?_
                              show Steps p.tables e below (T36.setTop (mkF m 295 #[.val (.int p0), .val (.int pp1), .val (.long jo1), .second, .val (.long jo2), .second, .val (.long jl1), .second, .val (.long jl2), .second, .val (.int n1), .val (.int x0), .val (.int x1), .val (.int n2), .val (.int y0), .val (.int y1), .val (.long p1), .second, .val (.long r1), .second, .val (.long p2), .second, .val (.long r2), .second, .val (.ref bb_20), .val (.ref bb_22), .val (.ref b26), .val (.ref b33), .val (.int (((p0.toUInt32 >>> ((18 : Int32) &&& 31).toUInt32).toInt32) &&& (7 : Int32))), .unset, .unset] [(.int (1 : Int32))])) _
                              refine XS.goto Xr36.here hx rfl (pc0 := 295) (pc' := 299) rfl (hb hby at_295) (by decide) (by decide) ?_
                              show Steps p.tables e below (T36.setTop (mkF m 299 #[.val (.int p0), .val (.int pp1), .val (.long jo1), .second, .val (.long jo2), .second, .val (.long jl1), .second, .val (.long jl2), .second, .val (.int n1), .val (.int x0), .val (.int x1), .val (.int n2), .val (.int y0), .val (.int y1), .val (.long p1), .second, .val (.long r1), .second, .val (.long p2), .second, .val (.long r2), .second, .val (.ref bb_20), .val (.ref bb_22), .val (.ref b26), .val (.ref b33), .val (.int (((p0.toUInt32 >>> ((18 : Int32) &&& 31).toUInt32).toInt32) &&& (7 : Int32))), .unset, .unset] [(.int (1 : Int32))])) _
                              refine XS.istore Xr36.here hx rfl (hb hby at_299) rfl (l' := #[.val (.int p0), .val (.int pp1), .val (.long jo1), .second, .val (.long jo2), .second, .val (.long jl1), .second, .val (.long jl2), .second, .val (.int n1), .val (.int x0), .val (.int x1), .val (.int n2), .val (.int y0), .val (.int y1), .val (.long p1), .second, .val (.long r1), .second, .val (.long p2), .second, .val (.long r2), .second, .val (.ref bb_20), .val (.ref bb_22), .val (.ref b26), .val (.ref b33), .val (.int (((p0.toUInt32 >>> ((18 : Int32) &&& 31).toUInt32).toInt32) &&& (7 : Int32))), .val (.int (1 : Int32)), .unset]) rfl ?_
                              exact kt)
                            exact kj57 ⟨(1 : Int32), (Or.inl ⟨rfl, (own_head hj_n1.1 hj_n2.1).mpr ⟨hcx59, Or.inr hcx70, Or.inl hcx72⟩⟩), pre73⟩
                          · skip
                            have pre74 : ∀ t, Steps p.tables e below (T36.setTop (mkF m 291 #[.val (.int p0), .val (.int pp1), .val (.long jo1), .second, .val (.long jo2), .second, .val (.long jl1), .second, .val (.long jl2), .second, .val (.int n1), .val (.int x0), .val (.int x1), .val (.int n2), .val (.int y0), .val (.int y1), .val (.long p1), .second, .val (.long r1), .second, .val (.long p2), .second, .val (.long r2), .second, .val (.ref bb_20), .val (.ref bb_22), .val (.ref b26), .val (.ref b33), .val (.int (((p0.toUInt32 >>> ((18 : Int32) &&& 31).toUInt32).toInt32) &&& (7 : Int32))), .unset, .unset] [(.int y1), (.int x1)])) t → Steps p.tables e below (s₁.setTop (entryFrame m #[(.int p0), (.int pp1), (.long jo1), (.long jo2), (.long jl1), (.long jl2)] maxLocals)) t := fun t kt => pre71 t (by
                              show Steps p.tables e below (T36.setTop (mkF m 284 #[.val (.int p0), .val (.int pp1), .val (.long jo1), .second, .val (.long jo2), .second, .val (.long jl1), .second, .val (.long jl2), .second, .val (.int n1), .val (.int x0), .val (.int x1), .val (.int n2), .val (.int y0), .val (.int y1), .val (.long p1), .second, .val (.long r1), .second, .val (.long p2), .second, .val (.long r2), .second, .val (.ref bb_20), .val (.ref bb_22), .val (.ref b26), .val (.ref b33), .val (.int (((p0.toUInt32 >>> ((18 : Int32) &&& 31).toUInt32).toInt32) &&& (7 : Int32))), .unset, .unset] [(.int (2 : Int32)), (.int n1)])) _
                              refine XS.icmpNo Xr36.here hx rfl (hb hby at_284) rfl (flt hcx72).1 ?_
                              show Steps p.tables e below (T36.setTop (mkF m 287 #[.val (.int p0), .val (.int pp1), .val (.long jo1), .second, .val (.long jo2), .second, .val (.long jl1), .second, .val (.long jl2), .second, .val (.int n1), .val (.int x0), .val (.int x1), .val (.int n2), .val (.int y0), .val (.int y1), .val (.long p1), .second, .val (.long r1), .second, .val (.long p2), .second, .val (.long r2), .second, .val (.ref bb_20), .val (.ref bb_22), .val (.ref b26), .val (.ref b33), .val (.int (((p0.toUInt32 >>> ((18 : Int32) &&& 31).toUInt32).toInt32) &&& (7 : Int32))), .unset, .unset] [])) _
                              refine XS.iload Xr36.here hx rfl (hb hby at_287) rfl ?_
                              show Steps p.tables e below (T36.setTop (mkF m 289 #[.val (.int p0), .val (.int pp1), .val (.long jo1), .second, .val (.long jo2), .second, .val (.long jl1), .second, .val (.long jl2), .second, .val (.int n1), .val (.int x0), .val (.int x1), .val (.int n2), .val (.int y0), .val (.int y1), .val (.long p1), .second, .val (.long r1), .second, .val (.long p2), .second, .val (.long r2), .second, .val (.ref bb_20), .val (.ref bb_22), .val (.ref b26), .val (.ref b33), .val (.int (((p0.toUInt32 >>> ((18 : Int32) &&& 31).toUInt32).toInt32) &&& (7 : Int32))), .unset, .unset] [(.int x1)])) _
                              refine XS.iload Xr36.here hx rfl (hb hby at_289) rfl ?_
                              exact kt)
                            by_cases hcx75 : x1 = y1
                            · skip
                              have pre76 : ∀ t, Steps p.tables e below (T36.setTop (mkF m 301 #[.val (.int p0), .val (.int pp1), .val (.long jo1), .second, .val (.long jo2), .second, .val (.long jl1), .second, .val (.long jl2), .second, .val (.int n1), .val (.int x0), .val (.int x1), .val (.int n2), .val (.int y0), .val (.int y1), .val (.long p1), .second, .val (.long r1), .second, .val (.long p2), .second, .val (.long r2), .second, .val (.ref bb_20), .val (.ref bb_22), .val (.ref b26), .val (.ref b33), .val (.int (((p0.toUInt32 >>> ((18 : Int32) &&& 31).toUInt32).toInt32) &&& (7 : Int32))), .val (.int (1 : Int32)), .unset] [])) t → Steps p.tables e below (s₁.setTop (entryFrame m #[(.int p0), (.int pp1), (.long jo1), (.long jo2), (.long jl1), (.long jl2)] maxLocals)) t := fun t kt => pre74 t (by
                                show Steps p.tables e below (T36.setTop (mkF m 291 #[.val (.int p0), .val (.int pp1), .val (.long jo1), .second, .val (.long jo2), .second, .val (.long jl1), .second, .val (.long jl2), .second, .val (.int n1), .val (.int x0), .val (.int x1), .val (.int n2), .val (.int y0), .val (.int y1), .val (.long p1), .second, .val (.long r1), .second, .val (.long p2), .second, .val (.long r2), .second, .val (.ref bb_20), .val (.ref bb_22), .val (.ref b26), .val (.ref b33), .val (.int (((p0.toUInt32 >>> ((18 : Int32) &&& 31).toUInt32).toInt32) &&& (7 : Int32))), .unset, .unset] [(.int y1), (.int x1)])) _
                                refine XS.icmpNo Xr36.here hx rfl (hb hby at_291) rfl (teq hcx75).2 ?_
                                show Steps p.tables e below (T36.setTop (mkF m 294 #[.val (.int p0), .val (.int pp1), .val (.long jo1), .second, .val (.long jo2), .second, .val (.long jl1), .second, .val (.long jl2), .second, .val (.int n1), .val (.int x0), .val (.int x1), .val (.int n2), .val (.int y0), .val (.int y1), .val (.long p1), .second, .val (.long r1), .second, .val (.long p2), .second, .val (.long r2), .second, .val (.ref bb_20), .val (.ref bb_22), .val (.ref b26), .val (.ref b33), .val (.int (((p0.toUInt32 >>> ((18 : Int32) &&& 31).toUInt32).toInt32) &&& (7 : Int32))), .unset, .unset] [])) _
                                refine XS.iconst Xr36.here hx rfl (hb hby at_294) ?_
                                show Steps p.tables e below (T36.setTop (mkF m 295 #[.val (.int p0), .val (.int pp1), .val (.long jo1), .second, .val (.long jo2), .second, .val (.long jl1), .second, .val (.long jl2), .second, .val (.int n1), .val (.int x0), .val (.int x1), .val (.int n2), .val (.int y0), .val (.int y1), .val (.long p1), .second, .val (.long r1), .second, .val (.long p2), .second, .val (.long r2), .second, .val (.ref bb_20), .val (.ref bb_22), .val (.ref b26), .val (.ref b33), .val (.int (((p0.toUInt32 >>> ((18 : Int32) &&& 31).toUInt32).toInt32) &&& (7 : Int32))), .unset, .unset] [(.int (1 : Int32))])) _
                                refine XS.goto Xr36.here hx rfl (pc0 := 295) (pc' := 299) rfl (hb hby at_295) (by decide) (by decide) ?_
                                show Steps p.tables e below (T36.setTop (mkF m 299 #[.val (.int p0), .val (.int pp1), .val (.long jo1), .second, .val (.long jo2), .second, .val (.long jl1), .second, .val (.long jl2), .second, .val (.int n1), .val (.int x0), .val (.int x1), .val (.int n2), .val (.int y0), .val (.int y1), .val (.long p1), .second, .val (.long r1), .second, .val (.long p2), .second, .val (.long r2), .second, .val (.ref bb_20), .val (.ref bb_22), .val (.ref b26), .val (.ref b33), .val (.int (((p0.toUInt32 >>> ((18 : Int32) &&& 31).toUInt32).toInt32) &&& (7 : Int32))), .unset, .unset] [(.int (1 : Int32))])) _
                                refine XS.istore Xr36.here hx rfl (hb hby at_299) rfl (l' := #[.val (.int p0), .val (.int pp1), .val (.long jo1), .second, .val (.long jo2), .second, .val (.long jl1), .second, .val (.long jl2), .second, .val (.int n1), .val (.int x0), .val (.int x1), .val (.int n2), .val (.int y0), .val (.int y1), .val (.long p1), .second, .val (.long r1), .second, .val (.long p2), .second, .val (.long r2), .second, .val (.ref bb_20), .val (.ref bb_22), .val (.ref b26), .val (.ref b33), .val (.int (((p0.toUInt32 >>> ((18 : Int32) &&& 31).toUInt32).toInt32) &&& (7 : Int32))), .val (.int (1 : Int32)), .unset]) rfl ?_
                                exact kt)
                              exact kj57 ⟨(1 : Int32), (Or.inl ⟨rfl, (own_head hj_n1.1 hj_n2.1).mpr ⟨hcx59, Or.inr hcx70, Or.inr hcx75⟩⟩), pre76⟩
                            · skip
                              have pre77 : ∀ t, Steps p.tables e below (T36.setTop (mkF m 301 #[.val (.int p0), .val (.int pp1), .val (.long jo1), .second, .val (.long jo2), .second, .val (.long jl1), .second, .val (.long jl2), .second, .val (.int n1), .val (.int x0), .val (.int x1), .val (.int n2), .val (.int y0), .val (.int y1), .val (.long p1), .second, .val (.long r1), .second, .val (.long p2), .second, .val (.long r2), .second, .val (.ref bb_20), .val (.ref bb_22), .val (.ref b26), .val (.ref b33), .val (.int (((p0.toUInt32 >>> ((18 : Int32) &&& 31).toUInt32).toInt32) &&& (7 : Int32))), .val (.int (0 : Int32)), .unset] [])) t → Steps p.tables e below (s₁.setTop (entryFrame m #[(.int p0), (.int pp1), (.long jo1), (.long jo2), (.long jl1), (.long jl2)] maxLocals)) t := fun t kt => pre74 t (by
                                show Steps p.tables e below (T36.setTop (mkF m 291 #[.val (.int p0), .val (.int pp1), .val (.long jo1), .second, .val (.long jo2), .second, .val (.long jl1), .second, .val (.long jl2), .second, .val (.int n1), .val (.int x0), .val (.int x1), .val (.int n2), .val (.int y0), .val (.int y1), .val (.long p1), .second, .val (.long r1), .second, .val (.long p2), .second, .val (.long r2), .second, .val (.ref bb_20), .val (.ref bb_22), .val (.ref b26), .val (.ref b33), .val (.int (((p0.toUInt32 >>> ((18 : Int32) &&& 31).toUInt32).toInt32) &&& (7 : Int32))), .unset, .unset] [(.int y1), (.int x1)])) _
                                refine XS.icmpYes Xr36.here hx rfl (pc0 := 291) (pc' := 298) rfl (hb hby at_291) rfl (feq hcx75).2 (by decide) (by decide) ?_
                                show Steps p.tables e below (T36.setTop (mkF m 298 #[.val (.int p0), .val (.int pp1), .val (.long jo1), .second, .val (.long jo2), .second, .val (.long jl1), .second, .val (.long jl2), .second, .val (.int n1), .val (.int x0), .val (.int x1), .val (.int n2), .val (.int y0), .val (.int y1), .val (.long p1), .second, .val (.long r1), .second, .val (.long p2), .second, .val (.long r2), .second, .val (.ref bb_20), .val (.ref bb_22), .val (.ref b26), .val (.ref b33), .val (.int (((p0.toUInt32 >>> ((18 : Int32) &&& 31).toUInt32).toInt32) &&& (7 : Int32))), .unset, .unset] [])) _
                                refine XS.iconst Xr36.here hx rfl (hb hby at_298) ?_
                                show Steps p.tables e below (T36.setTop (mkF m 299 #[.val (.int p0), .val (.int pp1), .val (.long jo1), .second, .val (.long jo2), .second, .val (.long jl1), .second, .val (.long jl2), .second, .val (.int n1), .val (.int x0), .val (.int x1), .val (.int n2), .val (.int y0), .val (.int y1), .val (.long p1), .second, .val (.long r1), .second, .val (.long p2), .second, .val (.long r2), .second, .val (.ref bb_20), .val (.ref bb_22), .val (.ref b26), .val (.ref b33), .val (.int (((p0.toUInt32 >>> ((18 : Int32) &&& 31).toUInt32).toInt32) &&& (7 : Int32))), .unset, .unset] [(.int (0 : Int32))])) _
                                refine XS.istore Xr36.here hx rfl (hb hby at_299) rfl (l' := #[.val (.int p0), .val (.int pp1), .val (.long jo1), .second, .val (.long jo2), .second, .val (.long jl1), .second, .val (.long jl2), .second, .val (.int n1), .val (.int x0), .val (.int x1), .val (.int n2), .val (.int y0), .val (.int y1), .val (.long p1), .second, .val (.long r1), .second, .val (.long p2), .second, .val (.long r2), .second, .val (.ref bb_20), .val (.ref bb_22), .val (.ref b26), .val (.ref b33), .val (.int (((p0.toUInt32 >>> ((18 : Int32) &&& 31).toUInt32).toInt32) &&& (7 : Int32))), .val (.int (0 : Int32)), .unset]) rfl ?_
                                exact kt)
                              exact kj57 ⟨(0 : Int32), (Or.inr ⟨rfl, fun q => ((own_head hj_n1.1 hj_n2.1).mp q).2.2.elim hcx72 hcx75⟩), pre77⟩
                        · skip
                          have pre78 : ∀ t, Steps p.tables e below (T36.setTop (mkF m 301 #[.val (.int p0), .val (.int pp1), .val (.long jo1), .second, .val (.long jo2), .second, .val (.long jl1), .second, .val (.long jl2), .second, .val (.int n1), .val (.int x0), .val (.int x1), .val (.int n2), .val (.int y0), .val (.int y1), .val (.long p1), .second, .val (.long r1), .second, .val (.long p2), .second, .val (.long r2), .second, .val (.ref bb_20), .val (.ref bb_22), .val (.ref b26), .val (.ref b33), .val (.int (((p0.toUInt32 >>> ((18 : Int32) &&& 31).toUInt32).toInt32) &&& (7 : Int32))), .val (.int (0 : Int32)), .unset] [])) t → Steps p.tables e below (s₁.setTop (entryFrame m #[(.int p0), (.int pp1), (.long jo1), (.long jo2), (.long jl1), (.long jl2)] maxLocals)) t := fun t kt => pre69 t (by
                            show Steps p.tables e below (T36.setTop (mkF m 278 #[.val (.int p0), .val (.int pp1), .val (.long jo1), .second, .val (.long jo2), .second, .val (.long jl1), .second, .val (.long jl2), .second, .val (.int n1), .val (.int x0), .val (.int x1), .val (.int n2), .val (.int y0), .val (.int y1), .val (.long p1), .second, .val (.long r1), .second, .val (.long p2), .second, .val (.long r2), .second, .val (.ref bb_20), .val (.ref bb_22), .val (.ref b26), .val (.ref b33), .val (.int (((p0.toUInt32 >>> ((18 : Int32) &&& 31).toUInt32).toInt32) &&& (7 : Int32))), .unset, .unset] [(.int y0), (.int x0)])) _
                            refine XS.icmpYes Xr36.here hx rfl (pc0 := 278) (pc' := 298) rfl (hb hby at_278) rfl (feq hcx70).2 (by decide) (by decide) ?_
                            show Steps p.tables e below (T36.setTop (mkF m 298 #[.val (.int p0), .val (.int pp1), .val (.long jo1), .second, .val (.long jo2), .second, .val (.long jl1), .second, .val (.long jl2), .second, .val (.int n1), .val (.int x0), .val (.int x1), .val (.int n2), .val (.int y0), .val (.int y1), .val (.long p1), .second, .val (.long r1), .second, .val (.long p2), .second, .val (.long r2), .second, .val (.ref bb_20), .val (.ref bb_22), .val (.ref b26), .val (.ref b33), .val (.int (((p0.toUInt32 >>> ((18 : Int32) &&& 31).toUInt32).toInt32) &&& (7 : Int32))), .unset, .unset] [])) _
                            refine XS.iconst Xr36.here hx rfl (hb hby at_298) ?_
                            show Steps p.tables e below (T36.setTop (mkF m 299 #[.val (.int p0), .val (.int pp1), .val (.long jo1), .second, .val (.long jo2), .second, .val (.long jl1), .second, .val (.long jl2), .second, .val (.int n1), .val (.int x0), .val (.int x1), .val (.int n2), .val (.int y0), .val (.int y1), .val (.long p1), .second, .val (.long r1), .second, .val (.long p2), .second, .val (.long r2), .second, .val (.ref bb_20), .val (.ref bb_22), .val (.ref b26), .val (.ref b33), .val (.int (((p0.toUInt32 >>> ((18 : Int32) &&& 31).toUInt32).toInt32) &&& (7 : Int32))), .unset, .unset] [(.int (0 : Int32))])) _
                            refine XS.istore Xr36.here hx rfl (hb hby at_299) rfl (l' := #[.val (.int p0), .val (.int pp1), .val (.long jo1), .second, .val (.long jo2), .second, .val (.long jl1), .second, .val (.long jl2), .second, .val (.int n1), .val (.int x0), .val (.int x1), .val (.int n2), .val (.int y0), .val (.int y1), .val (.long p1), .second, .val (.long r1), .second, .val (.long p2), .second, .val (.long r2), .second, .val (.ref bb_20), .val (.ref bb_22), .val (.ref b26), .val (.ref b33), .val (.int (((p0.toUInt32 >>> ((18 : Int32) &&& 31).toUInt32).toInt32) &&& (7 : Int32))), .val (.int (0 : Int32)), .unset]) rfl ?_
                            exact kt)
                          exact kj57 ⟨(0 : Int32), (Or.inr ⟨rfl, fun q => ((own_head hj_n1.1 hj_n2.1).mp q).2.1.elim hcx61 hcx70⟩), pre78⟩
                    · skip
                      have pre79 : ∀ t, Steps p.tables e below (T36.setTop (mkF m 301 #[.val (.int p0), .val (.int pp1), .val (.long jo1), .second, .val (.long jo2), .second, .val (.long jl1), .second, .val (.long jl2), .second, .val (.int n1), .val (.int x0), .val (.int x1), .val (.int n2), .val (.int y0), .val (.int y1), .val (.long p1), .second, .val (.long r1), .second, .val (.long p2), .second, .val (.long r2), .second, .val (.ref bb_20), .val (.ref bb_22), .val (.ref b26), .val (.ref b33), .val (.int (((p0.toUInt32 >>> ((18 : Int32) &&& 31).toUInt32).toInt32) &&& (7 : Int32))), .val (.int (0 : Int32)), .unset] [])) t → Steps p.tables e below (s₁.setTop (entryFrame m #[(.int p0), (.int pp1), (.long jo1), (.long jo2), (.long jl1), (.long jl2)] maxLocals)) t := fun t kt => pre58 t (by
                        show Steps p.tables e below (T36.setTop (mkF m 265 #[.val (.int p0), .val (.int pp1), .val (.long jo1), .second, .val (.long jo2), .second, .val (.long jl1), .second, .val (.long jl2), .second, .val (.int n1), .val (.int x0), .val (.int x1), .val (.int n2), .val (.int y0), .val (.int y1), .val (.long p1), .second, .val (.long r1), .second, .val (.long p2), .second, .val (.long r2), .second, .val (.ref bb_20), .val (.ref bb_22), .val (.ref b26), .val (.ref b33), .val (.int (((p0.toUInt32 >>> ((18 : Int32) &&& 31).toUInt32).toInt32) &&& (7 : Int32))), .unset, .unset] [(.int n2), (.int n1)])) _
                        refine XS.icmpYes Xr36.here hx rfl (pc0 := 265) (pc' := 298) rfl (hb hby at_265) rfl (feq hcx59).2 (by decide) (by decide) ?_
                        show Steps p.tables e below (T36.setTop (mkF m 298 #[.val (.int p0), .val (.int pp1), .val (.long jo1), .second, .val (.long jo2), .second, .val (.long jl1), .second, .val (.long jl2), .second, .val (.int n1), .val (.int x0), .val (.int x1), .val (.int n2), .val (.int y0), .val (.int y1), .val (.long p1), .second, .val (.long r1), .second, .val (.long p2), .second, .val (.long r2), .second, .val (.ref bb_20), .val (.ref bb_22), .val (.ref b26), .val (.ref b33), .val (.int (((p0.toUInt32 >>> ((18 : Int32) &&& 31).toUInt32).toInt32) &&& (7 : Int32))), .unset, .unset] [])) _
                        refine XS.iconst Xr36.here hx rfl (hb hby at_298) ?_
                        show Steps p.tables e below (T36.setTop (mkF m 299 #[.val (.int p0), .val (.int pp1), .val (.long jo1), .second, .val (.long jo2), .second, .val (.long jl1), .second, .val (.long jl2), .second, .val (.int n1), .val (.int x0), .val (.int x1), .val (.int n2), .val (.int y0), .val (.int y1), .val (.long p1), .second, .val (.long r1), .second, .val (.long p2), .second, .val (.long r2), .second, .val (.ref bb_20), .val (.ref bb_22), .val (.ref b26), .val (.ref b33), .val (.int (((p0.toUInt32 >>> ((18 : Int32) &&& 31).toUInt32).toInt32) &&& (7 : Int32))), .unset, .unset] [(.int (0 : Int32))])) _
                        refine XS.istore Xr36.here hx rfl (hb hby at_299) rfl (l' := #[.val (.int p0), .val (.int pp1), .val (.long jo1), .second, .val (.long jo2), .second, .val (.long jl1), .second, .val (.long jl2), .second, .val (.int n1), .val (.int x0), .val (.int x1), .val (.int n2), .val (.int y0), .val (.int y1), .val (.long p1), .second, .val (.long r1), .second, .val (.long p2), .second, .val (.long r2), .second, .val (.ref bb_20), .val (.ref bb_22), .val (.ref b26), .val (.ref b33), .val (.int (((p0.toUInt32 >>> ((18 : Int32) &&& 31).toUInt32).toInt32) &&& (7 : Int32))), .val (.int (0 : Int32)), .unset]) rfl ?_
                        exact kt)
                      exact kj57 ⟨(0 : Int32), (Or.inr ⟨rfl, fun q => hcx59 ((own_head hj_n1.1 hj_n2.1).mp q).1⟩), pre79⟩
                  · rintro ⟨b29, hj_b29, preJ57⟩
                    refine cps (A := ∃ (b30 : Int32), ((b30 = (1 : Int32) ∧ (own_cs n1 x0 x1) = (own_cs n2 y0 y1) ∧ p1 = p2 ∧ r1 = r2) ∨ (b30 = (0 : Int32) ∧ ¬ ((own_cs n1 x0 x1) = (own_cs n2 y0 y1) ∧ p1 = p2 ∧ r1 = r2))) ∧ ∀ t, Steps p.tables e below (T36.setTop (mkF m 329 #[.val (.int p0), .val (.int pp1), .val (.long jo1), .second, .val (.long jo2), .second, .val (.long jl1), .second, .val (.long jl2), .second, .val (.int n1), .val (.int x0), .val (.int x1), .val (.int n2), .val (.int y0), .val (.int y1), .val (.long p1), .second, .val (.long r1), .second, .val (.long p2), .second, .val (.long r2), .second, .val (.ref bb_20), .val (.ref bb_22), .val (.ref b26), .val (.ref b33), .val (.int (((p0.toUInt32 >>> ((18 : Int32) &&& 31).toUInt32).toInt32) &&& (7 : Int32))), .val (.int b29), .val (.int b30)] [])) t → Steps p.tables e below (s₁.setTop (entryFrame m #[(.int p0), (.int pp1), (.long jo1), (.long jo2), (.long jl1), (.long jl2)] maxLocals)) t) (fun kj80 => ?_) ?_
                    · skip
                      have pre81 : ∀ t, Steps p.tables e below (T36.setTop (mkF m 303 #[.val (.int p0), .val (.int pp1), .val (.long jo1), .second, .val (.long jo2), .second, .val (.long jl1), .second, .val (.long jl2), .second, .val (.int n1), .val (.int x0), .val (.int x1), .val (.int n2), .val (.int y0), .val (.int y1), .val (.long p1), .second, .val (.long r1), .second, .val (.long p2), .second, .val (.long r2), .second, .val (.ref bb_20), .val (.ref bb_22), .val (.ref b26), .val (.ref b33), .val (.int (((p0.toUInt32 >>> ((18 : Int32) &&& 31).toUInt32).toInt32) &&& (7 : Int32))), .val (.int b29), .unset] [(.int b29)])) t → Steps p.tables e below (s₁.setTop (entryFrame m #[(.int p0), (.int pp1), (.long jo1), (.long jo2), (.long jl1), (.long jl2)] maxLocals)) t := fun t kt => preJ57 t (by
                        show Steps p.tables e below (T36.setTop (mkF m 301 #[.val (.int p0), .val (.int pp1), .val (.long jo1), .second, .val (.long jo2), .second, .val (.long jl1), .second, .val (.long jl2), .second, .val (.int n1), .val (.int x0), .val (.int x1), .val (.int n2), .val (.int y0), .val (.int y1), .val (.long p1), .second, .val (.long r1), .second, .val (.long p2), .second, .val (.long r2), .second, .val (.ref bb_20), .val (.ref bb_22), .val (.ref b26), .val (.ref b33), .val (.int (((p0.toUInt32 >>> ((18 : Int32) &&& 31).toUInt32).toInt32) &&& (7 : Int32))), .val (.int b29), .unset] [])) _
                        refine XS.iload Xr36.here hx rfl (hb hby at_301) rfl ?_
                        exact kt)
                      by_cases hcx82 : b29 = (0 : Int32)
                      · skip
                        have pre83 : ∀ t, Steps p.tables e below (T36.setTop (mkF m 329 #[.val (.int p0), .val (.int pp1), .val (.long jo1), .second, .val (.long jo2), .second, .val (.long jl1), .second, .val (.long jl2), .second, .val (.int n1), .val (.int x0), .val (.int x1), .val (.int n2), .val (.int y0), .val (.int y1), .val (.long p1), .second, .val (.long r1), .second, .val (.long p2), .second, .val (.long r2), .second, .val (.ref bb_20), .val (.ref bb_22), .val (.ref b26), .val (.ref b33), .val (.int (((p0.toUInt32 >>> ((18 : Int32) &&& 31).toUInt32).toInt32) &&& (7 : Int32))), .val (.int b29), .val (.int (0 : Int32))] [])) t → Steps p.tables e below (s₁.setTop (entryFrame m #[(.int p0), (.int pp1), (.long jo1), (.long jo2), (.long jl1), (.long jl2)] maxLocals)) t := fun t kt => pre81 t (by
                          show Steps p.tables e below (T36.setTop (mkF m 303 #[.val (.int p0), .val (.int pp1), .val (.long jo1), .second, .val (.long jo2), .second, .val (.long jl1), .second, .val (.long jl2), .second, .val (.int n1), .val (.int x0), .val (.int x1), .val (.int n2), .val (.int y0), .val (.int y1), .val (.long p1), .second, .val (.long r1), .second, .val (.long p2), .second, .val (.long r2), .second, .val (.ref bb_20), .val (.ref bb_22), .val (.ref b26), .val (.ref b33), .val (.int (((p0.toUInt32 >>> ((18 : Int32) &&& 31).toUInt32).toInt32) &&& (7 : Int32))), .val (.int b29), .unset] [(.int b29)])) _
                          refine XS.ifYes Xr36.here hx rfl (pc0 := 303) (pc' := 326) rfl (hb hby at_303) rfl ((if0 _ _).trans (teq hcx82).1) (by decide) (by decide) ?_
                          show Steps p.tables e below (T36.setTop (mkF m 326 #[.val (.int p0), .val (.int pp1), .val (.long jo1), .second, .val (.long jo2), .second, .val (.long jl1), .second, .val (.long jl2), .second, .val (.int n1), .val (.int x0), .val (.int x1), .val (.int n2), .val (.int y0), .val (.int y1), .val (.long p1), .second, .val (.long r1), .second, .val (.long p2), .second, .val (.long r2), .second, .val (.ref bb_20), .val (.ref bb_22), .val (.ref b26), .val (.ref b33), .val (.int (((p0.toUInt32 >>> ((18 : Int32) &&& 31).toUInt32).toInt32) &&& (7 : Int32))), .val (.int b29), .unset] [])) _
                          refine XS.iconst Xr36.here hx rfl (hb hby at_326) ?_
                          show Steps p.tables e below (T36.setTop (mkF m 327 #[.val (.int p0), .val (.int pp1), .val (.long jo1), .second, .val (.long jo2), .second, .val (.long jl1), .second, .val (.long jl2), .second, .val (.int n1), .val (.int x0), .val (.int x1), .val (.int n2), .val (.int y0), .val (.int y1), .val (.long p1), .second, .val (.long r1), .second, .val (.long p2), .second, .val (.long r2), .second, .val (.ref bb_20), .val (.ref bb_22), .val (.ref b26), .val (.ref b33), .val (.int (((p0.toUInt32 >>> ((18 : Int32) &&& 31).toUInt32).toInt32) &&& (7 : Int32))), .val (.int b29), .unset] [(.int (0 : Int32))])) _
                          refine XS.istore Xr36.here hx rfl (hb hby at_327) rfl (l' := #[.val (.int p0), .val (.int pp1), .val (.long jo1), .second, .val (.long jo2), .second, .val (.long jl1), .second, .val (.long jl2), .second, .val (.int n1), .val (.int x0), .val (.int x1), .val (.int n2), .val (.int y0), .val (.int y1), .val (.long p1), .second, .val (.long r1), .second, .val (.long p2), .second, .val (.long r2), .second, .val (.ref bb_20), .val (.ref bb_22), .val (.ref b26), .val (.ref b33), .val (.int (((p0.toUInt32 >>> ((18 : Int32) &&& 31).toUInt32).toInt32) &&& (7 : Int32))), .val (.int b29), .val (.int (0 : Int32))]) rfl ?_
                          exact kt)
                        exact kj80 ⟨(0 : Int32), (Or.inr ⟨rfl, fun q => (hj_b29.resolve_left (fun q => absurd (q.1.symm.trans hcx82) (by decide))).2 q.1⟩), pre83⟩
                      · skip
                        have pre84 : ∀ t, Steps p.tables e below (T36.setTop (mkF m 311 #[.val (.int p0), .val (.int pp1), .val (.long jo1), .second, .val (.long jo2), .second, .val (.long jl1), .second, .val (.long jl2), .second, .val (.int n1), .val (.int x0), .val (.int x1), .val (.int n2), .val (.int y0), .val (.int y1), .val (.long p1), .second, .val (.long r1), .second, .val (.long p2), .second, .val (.long r2), .second, .val (.ref bb_20), .val (.ref bb_22), .val (.ref b26), .val (.ref b33), .val (.int (((p0.toUInt32 >>> ((18 : Int32) &&& 31).toUInt32).toInt32) &&& (7 : Int32))), .val (.int b29), .unset] [(.int (lcmpW p1 p2))])) t → Steps p.tables e below (s₁.setTop (entryFrame m #[(.int p0), (.int pp1), (.long jo1), (.long jo2), (.long jl1), (.long jl2)] maxLocals)) t := fun t kt => pre81 t (by
                          show Steps p.tables e below (T36.setTop (mkF m 303 #[.val (.int p0), .val (.int pp1), .val (.long jo1), .second, .val (.long jo2), .second, .val (.long jl1), .second, .val (.long jl2), .second, .val (.int n1), .val (.int x0), .val (.int x1), .val (.int n2), .val (.int y0), .val (.int y1), .val (.long p1), .second, .val (.long r1), .second, .val (.long p2), .second, .val (.long r2), .second, .val (.ref bb_20), .val (.ref bb_22), .val (.ref b26), .val (.ref b33), .val (.int (((p0.toUInt32 >>> ((18 : Int32) &&& 31).toUInt32).toInt32) &&& (7 : Int32))), .val (.int b29), .unset] [(.int b29)])) _
                          refine XS.ifNo Xr36.here hx rfl (hb hby at_303) rfl ((if0 _ _).trans (feq hcx82).1) ?_
                          show Steps p.tables e below (T36.setTop (mkF m 306 #[.val (.int p0), .val (.int pp1), .val (.long jo1), .second, .val (.long jo2), .second, .val (.long jl1), .second, .val (.long jl2), .second, .val (.int n1), .val (.int x0), .val (.int x1), .val (.int n2), .val (.int y0), .val (.int y1), .val (.long p1), .second, .val (.long r1), .second, .val (.long p2), .second, .val (.long r2), .second, .val (.ref bb_20), .val (.ref bb_22), .val (.ref b26), .val (.ref b33), .val (.int (((p0.toUInt32 >>> ((18 : Int32) &&& 31).toUInt32).toInt32) &&& (7 : Int32))), .val (.int b29), .unset] [])) _
                          refine XS.lload Xr36.here hx rfl (hb hby at_306) rfl ?_
                          show Steps p.tables e below (T36.setTop (mkF m 308 #[.val (.int p0), .val (.int pp1), .val (.long jo1), .second, .val (.long jo2), .second, .val (.long jl1), .second, .val (.long jl2), .second, .val (.int n1), .val (.int x0), .val (.int x1), .val (.int n2), .val (.int y0), .val (.int y1), .val (.long p1), .second, .val (.long r1), .second, .val (.long p2), .second, .val (.long r2), .second, .val (.ref bb_20), .val (.ref bb_22), .val (.ref b26), .val (.ref b33), .val (.int (((p0.toUInt32 >>> ((18 : Int32) &&& 31).toUInt32).toInt32) &&& (7 : Int32))), .val (.int b29), .unset] [(.long p1)])) _
                          refine XS.lload Xr36.here hx rfl (hb hby at_308) rfl ?_
                          show Steps p.tables e below (T36.setTop (mkF m 310 #[.val (.int p0), .val (.int pp1), .val (.long jo1), .second, .val (.long jo2), .second, .val (.long jl1), .second, .val (.long jl2), .second, .val (.int n1), .val (.int x0), .val (.int x1), .val (.int n2), .val (.int y0), .val (.int y1), .val (.long p1), .second, .val (.long r1), .second, .val (.long p2), .second, .val (.long r2), .second, .val (.ref bb_20), .val (.ref bb_22), .val (.ref b26), .val (.ref b33), .val (.int (((p0.toUInt32 >>> ((18 : Int32) &&& 31).toUInt32).toInt32) &&& (7 : Int32))), .val (.int b29), .unset] [(.long p2), (.long p1)])) _
                          refine XS.lcmp Xr36.here hx rfl (hb hby at_310) rfl ?_
                          exact kt)
                        by_cases hcx85 : (lcmpW p1 p2) = (0 : Int32)
                        · skip
                          have pre86 : ∀ t, Steps p.tables e below (T36.setTop (mkF m 319 #[.val (.int p0), .val (.int pp1), .val (.long jo1), .second, .val (.long jo2), .second, .val (.long jl1), .second, .val (.long jl2), .second, .val (.int n1), .val (.int x0), .val (.int x1), .val (.int n2), .val (.int y0), .val (.int y1), .val (.long p1), .second, .val (.long r1), .second, .val (.long p2), .second, .val (.long r2), .second, .val (.ref bb_20), .val (.ref bb_22), .val (.ref b26), .val (.ref b33), .val (.int (((p0.toUInt32 >>> ((18 : Int32) &&& 31).toUInt32).toInt32) &&& (7 : Int32))), .val (.int b29), .unset] [(.int (lcmpW r1 r2))])) t → Steps p.tables e below (s₁.setTop (entryFrame m #[(.int p0), (.int pp1), (.long jo1), (.long jo2), (.long jl1), (.long jl2)] maxLocals)) t := fun t kt => pre84 t (by
                            show Steps p.tables e below (T36.setTop (mkF m 311 #[.val (.int p0), .val (.int pp1), .val (.long jo1), .second, .val (.long jo2), .second, .val (.long jl1), .second, .val (.long jl2), .second, .val (.int n1), .val (.int x0), .val (.int x1), .val (.int n2), .val (.int y0), .val (.int y1), .val (.long p1), .second, .val (.long r1), .second, .val (.long p2), .second, .val (.long r2), .second, .val (.ref bb_20), .val (.ref bb_22), .val (.ref b26), .val (.ref b33), .val (.int (((p0.toUInt32 >>> ((18 : Int32) &&& 31).toUInt32).toInt32) &&& (7 : Int32))), .val (.int b29), .unset] [(.int (lcmpW p1 p2))])) _
                            refine XS.ifNo Xr36.here hx rfl (hb hby at_311) rfl ((if0 _ _).trans (teq hcx85).2) ?_
                            show Steps p.tables e below (T36.setTop (mkF m 314 #[.val (.int p0), .val (.int pp1), .val (.long jo1), .second, .val (.long jo2), .second, .val (.long jl1), .second, .val (.long jl2), .second, .val (.int n1), .val (.int x0), .val (.int x1), .val (.int n2), .val (.int y0), .val (.int y1), .val (.long p1), .second, .val (.long r1), .second, .val (.long p2), .second, .val (.long r2), .second, .val (.ref bb_20), .val (.ref bb_22), .val (.ref b26), .val (.ref b33), .val (.int (((p0.toUInt32 >>> ((18 : Int32) &&& 31).toUInt32).toInt32) &&& (7 : Int32))), .val (.int b29), .unset] [])) _
                            refine XS.lload Xr36.here hx rfl (hb hby at_314) rfl ?_
                            show Steps p.tables e below (T36.setTop (mkF m 316 #[.val (.int p0), .val (.int pp1), .val (.long jo1), .second, .val (.long jo2), .second, .val (.long jl1), .second, .val (.long jl2), .second, .val (.int n1), .val (.int x0), .val (.int x1), .val (.int n2), .val (.int y0), .val (.int y1), .val (.long p1), .second, .val (.long r1), .second, .val (.long p2), .second, .val (.long r2), .second, .val (.ref bb_20), .val (.ref bb_22), .val (.ref b26), .val (.ref b33), .val (.int (((p0.toUInt32 >>> ((18 : Int32) &&& 31).toUInt32).toInt32) &&& (7 : Int32))), .val (.int b29), .unset] [(.long r1)])) _
                            refine XS.lload Xr36.here hx rfl (hb hby at_316) rfl ?_
                            show Steps p.tables e below (T36.setTop (mkF m 318 #[.val (.int p0), .val (.int pp1), .val (.long jo1), .second, .val (.long jo2), .second, .val (.long jl1), .second, .val (.long jl2), .second, .val (.int n1), .val (.int x0), .val (.int x1), .val (.int n2), .val (.int y0), .val (.int y1), .val (.long p1), .second, .val (.long r1), .second, .val (.long p2), .second, .val (.long r2), .second, .val (.ref bb_20), .val (.ref bb_22), .val (.ref b26), .val (.ref b33), .val (.int (((p0.toUInt32 >>> ((18 : Int32) &&& 31).toUInt32).toInt32) &&& (7 : Int32))), .val (.int b29), .unset] [(.long r2), (.long r1)])) _
                            refine XS.lcmp Xr36.here hx rfl (hb hby at_318) rfl ?_
                            exact kt)
                          by_cases hcx87 : (lcmpW r1 r2) = (0 : Int32)
                          · skip
                            have pre88 : ∀ t, Steps p.tables e below (T36.setTop (mkF m 329 #[.val (.int p0), .val (.int pp1), .val (.long jo1), .second, .val (.long jo2), .second, .val (.long jl1), .second, .val (.long jl2), .second, .val (.int n1), .val (.int x0), .val (.int x1), .val (.int n2), .val (.int y0), .val (.int y1), .val (.long p1), .second, .val (.long r1), .second, .val (.long p2), .second, .val (.long r2), .second, .val (.ref bb_20), .val (.ref bb_22), .val (.ref b26), .val (.ref b33), .val (.int (((p0.toUInt32 >>> ((18 : Int32) &&& 31).toUInt32).toInt32) &&& (7 : Int32))), .val (.int b29), .val (.int (1 : Int32))] [])) t → Steps p.tables e below (s₁.setTop (entryFrame m #[(.int p0), (.int pp1), (.long jo1), (.long jo2), (.long jl1), (.long jl2)] maxLocals)) t := fun t kt => pre86 t (by
                              show Steps p.tables e below (T36.setTop (mkF m 319 #[.val (.int p0), .val (.int pp1), .val (.long jo1), .second, .val (.long jo2), .second, .val (.long jl1), .second, .val (.long jl2), .second, .val (.int n1), .val (.int x0), .val (.int x1), .val (.int n2), .val (.int y0), .val (.int y1), .val (.long p1), .second, .val (.long r1), .second, .val (.long p2), .second, .val (.long r2), .second, .val (.ref bb_20), .val (.ref bb_22), .val (.ref b26), .val (.ref b33), .val (.int (((p0.toUInt32 >>> ((18 : Int32) &&& 31).toUInt32).toInt32) &&& (7 : Int32))), .val (.int b29), .unset] [(.int (lcmpW r1 r2))])) _
                              refine XS.ifNo Xr36.here hx rfl (hb hby at_319) rfl ((if0 _ _).trans (teq hcx87).2) ?_
                              show Steps p.tables e below (T36.setTop (mkF m 322 #[.val (.int p0), .val (.int pp1), .val (.long jo1), .second, .val (.long jo2), .second, .val (.long jl1), .second, .val (.long jl2), .second, .val (.int n1), .val (.int x0), .val (.int x1), .val (.int n2), .val (.int y0), .val (.int y1), .val (.long p1), .second, .val (.long r1), .second, .val (.long p2), .second, .val (.long r2), .second, .val (.ref bb_20), .val (.ref bb_22), .val (.ref b26), .val (.ref b33), .val (.int (((p0.toUInt32 >>> ((18 : Int32) &&& 31).toUInt32).toInt32) &&& (7 : Int32))), .val (.int b29), .unset] [])) _
                              refine XS.iconst Xr36.here hx rfl (hb hby at_322) ?_
                              show Steps p.tables e below (T36.setTop (mkF m 323 #[.val (.int p0), .val (.int pp1), .val (.long jo1), .second, .val (.long jo2), .second, .val (.long jl1), .second, .val (.long jl2), .second, .val (.int n1), .val (.int x0), .val (.int x1), .val (.int n2), .val (.int y0), .val (.int y1), .val (.long p1), .second, .val (.long r1), .second, .val (.long p2), .second, .val (.long r2), .second, .val (.ref bb_20), .val (.ref bb_22), .val (.ref b26), .val (.ref b33), .val (.int (((p0.toUInt32 >>> ((18 : Int32) &&& 31).toUInt32).toInt32) &&& (7 : Int32))), .val (.int b29), .unset] [(.int (1 : Int32))])) _
                              refine XS.goto Xr36.here hx rfl (pc0 := 323) (pc' := 327) rfl (hb hby at_323) (by decide) (by decide) ?_
                              show Steps p.tables e below (T36.setTop (mkF m 327 #[.val (.int p0), .val (.int pp1), .val (.long jo1), .second, .val (.long jo2), .second, .val (.long jl1), .second, .val (.long jl2), .second, .val (.int n1), .val (.int x0), .val (.int x1), .val (.int n2), .val (.int y0), .val (.int y1), .val (.long p1), .second, .val (.long r1), .second, .val (.long p2), .second, .val (.long r2), .second, .val (.ref bb_20), .val (.ref bb_22), .val (.ref b26), .val (.ref b33), .val (.int (((p0.toUInt32 >>> ((18 : Int32) &&& 31).toUInt32).toInt32) &&& (7 : Int32))), .val (.int b29), .unset] [(.int (1 : Int32))])) _
                              refine XS.istore Xr36.here hx rfl (hb hby at_327) rfl (l' := #[.val (.int p0), .val (.int pp1), .val (.long jo1), .second, .val (.long jo2), .second, .val (.long jl1), .second, .val (.long jl2), .second, .val (.int n1), .val (.int x0), .val (.int x1), .val (.int n2), .val (.int y0), .val (.int y1), .val (.long p1), .second, .val (.long r1), .second, .val (.long p2), .second, .val (.long r2), .second, .val (.ref bb_20), .val (.ref bb_22), .val (.ref b26), .val (.ref b33), .val (.int (((p0.toUInt32 >>> ((18 : Int32) &&& 31).toUInt32).toInt32) &&& (7 : Int32))), .val (.int b29), .val (.int (1 : Int32))]) rfl ?_
                              exact kt)
                            exact kj80 ⟨(1 : Int32), (Or.inl ⟨rfl, (hj_b29.resolve_right (fun q => hcx82 q.1)).2, (lw_eq _ _).mp hcx85, (lw_eq _ _).mp hcx87⟩), pre88⟩
                          · skip
                            have pre89 : ∀ t, Steps p.tables e below (T36.setTop (mkF m 329 #[.val (.int p0), .val (.int pp1), .val (.long jo1), .second, .val (.long jo2), .second, .val (.long jl1), .second, .val (.long jl2), .second, .val (.int n1), .val (.int x0), .val (.int x1), .val (.int n2), .val (.int y0), .val (.int y1), .val (.long p1), .second, .val (.long r1), .second, .val (.long p2), .second, .val (.long r2), .second, .val (.ref bb_20), .val (.ref bb_22), .val (.ref b26), .val (.ref b33), .val (.int (((p0.toUInt32 >>> ((18 : Int32) &&& 31).toUInt32).toInt32) &&& (7 : Int32))), .val (.int b29), .val (.int (0 : Int32))] [])) t → Steps p.tables e below (s₁.setTop (entryFrame m #[(.int p0), (.int pp1), (.long jo1), (.long jo2), (.long jl1), (.long jl2)] maxLocals)) t := fun t kt => pre86 t (by
                              show Steps p.tables e below (T36.setTop (mkF m 319 #[.val (.int p0), .val (.int pp1), .val (.long jo1), .second, .val (.long jo2), .second, .val (.long jl1), .second, .val (.long jl2), .second, .val (.int n1), .val (.int x0), .val (.int x1), .val (.int n2), .val (.int y0), .val (.int y1), .val (.long p1), .second, .val (.long r1), .second, .val (.long p2), .second, .val (.long r2), .second, .val (.ref bb_20), .val (.ref bb_22), .val (.ref b26), .val (.ref b33), .val (.int (((p0.toUInt32 >>> ((18 : Int32) &&& 31).toUInt32).toInt32) &&& (7 : Int32))), .val (.int b29), .unset] [(.int (lcmpW r1 r2))])) _
                              refine XS.ifYes Xr36.here hx rfl (pc0 := 319) (pc' := 326) rfl (hb hby at_319) rfl ((if0 _ _).trans (feq hcx87).2) (by decide) (by decide) ?_
                              show Steps p.tables e below (T36.setTop (mkF m 326 #[.val (.int p0), .val (.int pp1), .val (.long jo1), .second, .val (.long jo2), .second, .val (.long jl1), .second, .val (.long jl2), .second, .val (.int n1), .val (.int x0), .val (.int x1), .val (.int n2), .val (.int y0), .val (.int y1), .val (.long p1), .second, .val (.long r1), .second, .val (.long p2), .second, .val (.long r2), .second, .val (.ref bb_20), .val (.ref bb_22), .val (.ref b26), .val (.ref b33), .val (.int (((p0.toUInt32 >>> ((18 : Int32) &&& 31).toUInt32).toInt32) &&& (7 : Int32))), .val (.int b29), .unset] [])) _
                              refine XS.iconst Xr36.here hx rfl (hb hby at_326) ?_
                              show Steps p.tables e below (T36.setTop (mkF m 327 #[.val (.int p0), .val (.int pp1), .val (.long jo1), .second, .val (.long jo2), .second, .val (.long jl1), .second, .val (.long jl2), .second, .val (.int n1), .val (.int x0), .val (.int x1), .val (.int n2), .val (.int y0), .val (.int y1), .val (.long p1), .second, .val (.long r1), .second, .val (.long p2), .second, .val (.long r2), .second, .val (.ref bb_20), .val (.ref bb_22), .val (.ref b26), .val (.ref b33), .val (.int (((p0.toUInt32 >>> ((18 : Int32) &&& 31).toUInt32).toInt32) &&& (7 : Int32))), .val (.int b29), .unset] [(.int (0 : Int32))])) _
                              refine XS.istore Xr36.here hx rfl (hb hby at_327) rfl (l' := #[.val (.int p0), .val (.int pp1), .val (.long jo1), .second, .val (.long jo2), .second, .val (.long jl1), .second, .val (.long jl2), .second, .val (.int n1), .val (.int x0), .val (.int x1), .val (.int n2), .val (.int y0), .val (.int y1), .val (.long p1), .second, .val (.long r1), .second, .val (.long p2), .second, .val (.long r2), .second, .val (.ref bb_20), .val (.ref bb_22), .val (.ref b26), .val (.ref b33), .val (.int (((p0.toUInt32 >>> ((18 : Int32) &&& 31).toUInt32).toInt32) &&& (7 : Int32))), .val (.int b29), .val (.int (0 : Int32))]) rfl ?_
                              exact kt)
                            exact kj80 ⟨(0 : Int32), (Or.inr ⟨rfl, fun q => hcx87 ((lw_eq _ _).mpr q.2.2)⟩), pre89⟩
                        · skip
                          have pre90 : ∀ t, Steps p.tables e below (T36.setTop (mkF m 329 #[.val (.int p0), .val (.int pp1), .val (.long jo1), .second, .val (.long jo2), .second, .val (.long jl1), .second, .val (.long jl2), .second, .val (.int n1), .val (.int x0), .val (.int x1), .val (.int n2), .val (.int y0), .val (.int y1), .val (.long p1), .second, .val (.long r1), .second, .val (.long p2), .second, .val (.long r2), .second, .val (.ref bb_20), .val (.ref bb_22), .val (.ref b26), .val (.ref b33), .val (.int (((p0.toUInt32 >>> ((18 : Int32) &&& 31).toUInt32).toInt32) &&& (7 : Int32))), .val (.int b29), .val (.int (0 : Int32))] [])) t → Steps p.tables e below (s₁.setTop (entryFrame m #[(.int p0), (.int pp1), (.long jo1), (.long jo2), (.long jl1), (.long jl2)] maxLocals)) t := fun t kt => pre84 t (by
                            show Steps p.tables e below (T36.setTop (mkF m 311 #[.val (.int p0), .val (.int pp1), .val (.long jo1), .second, .val (.long jo2), .second, .val (.long jl1), .second, .val (.long jl2), .second, .val (.int n1), .val (.int x0), .val (.int x1), .val (.int n2), .val (.int y0), .val (.int y1), .val (.long p1), .second, .val (.long r1), .second, .val (.long p2), .second, .val (.long r2), .second, .val (.ref bb_20), .val (.ref bb_22), .val (.ref b26), .val (.ref b33), .val (.int (((p0.toUInt32 >>> ((18 : Int32) &&& 31).toUInt32).toInt32) &&& (7 : Int32))), .val (.int b29), .unset] [(.int (lcmpW p1 p2))])) _
                            refine XS.ifYes Xr36.here hx rfl (pc0 := 311) (pc' := 326) rfl (hb hby at_311) rfl ((if0 _ _).trans (feq hcx85).2) (by decide) (by decide) ?_
                            show Steps p.tables e below (T36.setTop (mkF m 326 #[.val (.int p0), .val (.int pp1), .val (.long jo1), .second, .val (.long jo2), .second, .val (.long jl1), .second, .val (.long jl2), .second, .val (.int n1), .val (.int x0), .val (.int x1), .val (.int n2), .val (.int y0), .val (.int y1), .val (.long p1), .second, .val (.long r1), .second, .val (.long p2), .second, .val (.long r2), .second, .val (.ref bb_20), .val (.ref bb_22), .val (.ref b26), .val (.ref b33), .val (.int (((p0.toUInt32 >>> ((18 : Int32) &&& 31).toUInt32).toInt32) &&& (7 : Int32))), .val (.int b29), .unset] [])) _
                            refine XS.iconst Xr36.here hx rfl (hb hby at_326) ?_
                            show Steps p.tables e below (T36.setTop (mkF m 327 #[.val (.int p0), .val (.int pp1), .val (.long jo1), .second, .val (.long jo2), .second, .val (.long jl1), .second, .val (.long jl2), .second, .val (.int n1), .val (.int x0), .val (.int x1), .val (.int n2), .val (.int y0), .val (.int y1), .val (.long p1), .second, .val (.long r1), .second, .val (.long p2), .second, .val (.long r2), .second, .val (.ref bb_20), .val (.ref bb_22), .val (.ref b26), .val (.ref b33), .val (.int (((p0.toUInt32 >>> ((18 : Int32) &&& 31).toUInt32).toInt32) &&& (7 : Int32))), .val (.int b29), .unset] [(.int (0 : Int32))])) _
                            refine XS.istore Xr36.here hx rfl (hb hby at_327) rfl (l' := #[.val (.int p0), .val (.int pp1), .val (.long jo1), .second, .val (.long jo2), .second, .val (.long jl1), .second, .val (.long jl2), .second, .val (.int n1), .val (.int x0), .val (.int x1), .val (.int n2), .val (.int y0), .val (.int y1), .val (.long p1), .second, .val (.long r1), .second, .val (.long p2), .second, .val (.long r2), .second, .val (.ref bb_20), .val (.ref bb_22), .val (.ref b26), .val (.ref b33), .val (.int (((p0.toUInt32 >>> ((18 : Int32) &&& 31).toUInt32).toInt32) &&& (7 : Int32))), .val (.int b29), .val (.int (0 : Int32))]) rfl ?_
                            exact kt)
                          exact kj80 ⟨(0 : Int32), (Or.inr ⟨rfl, fun q => hcx85 ((lw_eq _ _).mpr q.2.1)⟩), pre90⟩
                    · rintro ⟨b30, hj_b30, preJ80⟩
                      rcases hj_b30 with ⟨hb30, hA⟩ | ⟨hb30, hA⟩
                      · skip
                        have f92 : Old Z n0 T36.heap := (((((f23.keep Kq22 all0).ext E26).keep Kq29 (allS g_b26 all0)).ext E33).keep Kq36 (allS g_b33 all0))
                        have f93 : Exa Z T36.heap b26 "com/example/multilingual_query_search/multilingualquerysearch/translation/DictdIndexEntry" := ((p29_0.ext E33).keep Kq36)
                        have f94 : Fld Z T36.heap b26 "com/example/multilingual_query_search/multilingualquerysearch/translation/DictdIndexEntry" "headword" "Ljava/lang/String;" (.ref bb_20) := ((p29_1.ext E33).keep Kq36 (ninS (Nat.ne_of_lt (Nat.lt_of_lt_of_le p29_0.lt (Nat.le_of_eq g33.symm))) nin0))
                        have f95 : Fld Z T36.heap b26 "com/example/multilingual_query_search/multilingualquerysearch/translation/DictdIndexEntry" "offset" "J" (.long p1) := ((p29_2.ext E33).keep Kq36 (ninS (Nat.ne_of_lt (Nat.lt_of_lt_of_le p29_0.lt (Nat.le_of_eq g33.symm))) nin0))
                        have f96 : Fld Z T36.heap b26 "com/example/multilingual_query_search/multilingualquerysearch/translation/DictdIndexEntry" "length" "J" (.long r1) := ((p29_3.ext E33).keep Kq36 (ninS (Nat.ne_of_lt (Nat.lt_of_lt_of_le p29_0.lt (Nat.le_of_eq g33.symm))) nin0))
                        have f97 : Exa Z T36.heap bb_20 "java/lang/String" := (((((p20_1.keep Kq22).ext E26).keep Kq29).ext E33).keep Kq36)
                        have f98 : Fld Z T36.heap bb_20 "java/lang/String" "value" "[B" (.ref tt_20) := (((((p20_3.keep Kq22 nin0).ext E26).keep Kq29 (ninS (Nat.ne_of_lt (Nat.lt_of_lt_of_le (p20_1.keep Kq22).lt (Nat.le_of_eq g26.symm))) nin0)).ext E33).keep Kq36 (ninS (Nat.ne_of_lt (Nat.lt_of_lt_of_le (((p20_1.keep Kq22).ext E26).keep Kq29).lt (Nat.le_of_eq g33.symm))) nin0))
                        have f99 : Fld Z T36.heap bb_20 "java/lang/String" "coder" "B" (.int (0 : Int32)) := (((((p20_2.keep Kq22 nin0).ext E26).keep Kq29 (ninS (Nat.ne_of_lt (Nat.lt_of_lt_of_le (p20_1.keep Kq22).lt (Nat.le_of_eq g26.symm))) nin0)).ext E33).keep Kq36 (ninS (Nat.ne_of_lt (Nat.lt_of_lt_of_le (((p20_1.keep Kq22).ext E26).keep Kq29).lt (Nat.le_of_eq g33.symm))) nin0))
                        have f100 : Arv Z T36.heap tt_20 kk_20 .byte (Int32.ofNat (own_cs n1 x0 x1).length) (((own_cs n1 x0 x1).map (fun c => c.toInt8.toInt32)).map Value.int) (.int (0 : Int32)) := (((((p20_4.keep Kq22 nin0).ext E26).keep Kq29 (ninS (Nat.ne_of_lt (Nat.lt_of_lt_of_le (p20_4.keep Kq22 nin0).lt (Nat.le_of_eq g26.symm))) nin0)).ext E33).keep Kq36 (ninS (Nat.ne_of_lt (Nat.lt_of_lt_of_le (((p20_4.keep Kq22 nin0).ext E26).keep Kq29 (ninS (Nat.ne_of_lt (Nat.lt_of_lt_of_le (p20_4.keep Kq22 nin0).lt (Nat.le_of_eq g26.symm))) nin0)).lt (Nat.le_of_eq g33.symm))) nin0))
                        have f101 : Exa Z T36.heap bb_22 "java/lang/String" := ((((p22_1.ext E26).keep Kq29).ext E33).keep Kq36)
                        have f102 : Fld Z T36.heap bb_22 "java/lang/String" "value" "[B" (.ref tt_22) := ((((p22_3.ext E26).keep Kq29 (ninS (Nat.ne_of_lt (Nat.lt_of_lt_of_le p22_1.lt (Nat.le_of_eq g26.symm))) nin0)).ext E33).keep Kq36 (ninS (Nat.ne_of_lt (Nat.lt_of_lt_of_le ((p22_1.ext E26).keep Kq29).lt (Nat.le_of_eq g33.symm))) nin0))
                        have f103 : Fld Z T36.heap bb_22 "java/lang/String" "coder" "B" (.int (0 : Int32)) := ((((p22_2.ext E26).keep Kq29 (ninS (Nat.ne_of_lt (Nat.lt_of_lt_of_le p22_1.lt (Nat.le_of_eq g26.symm))) nin0)).ext E33).keep Kq36 (ninS (Nat.ne_of_lt (Nat.lt_of_lt_of_le ((p22_1.ext E26).keep Kq29).lt (Nat.le_of_eq g33.symm))) nin0))
                        have f104 : Arv Z T36.heap tt_22 kk_22 .byte (Int32.ofNat (own_cs n2 y0 y1).length) (((own_cs n2 y0 y1).map (fun c => c.toInt8.toInt32)).map Value.int) (.int (0 : Int32)) := ((((p22_4.ext E26).keep Kq29 (ninS (Nat.ne_of_lt (Nat.lt_of_lt_of_le p22_4.lt (Nat.le_of_eq g26.symm))) nin0)).ext E33).keep Kq36 (ninS (Nat.ne_of_lt (Nat.lt_of_lt_of_le ((p22_4.ext E26).keep Kq29 (ninS (Nat.ne_of_lt (Nat.lt_of_lt_of_le p22_4.lt (Nat.le_of_eq g26.symm))) nin0)).lt (Nat.le_of_eq g33.symm))) nin0))
                        have f105 : n0 ≤ T36.heap.size := (Nat.le_trans f37 Kq36.1)
                        obtain ⟨cq91, kq91, q91a, q91b, q91c⟩ := isOf hZ36 rfl f93
                        obtain ⟨_, _, ⟨T91, L91, k91, n91⟩, -, X91, ⟨Lc91, hQ91, l91, y91, z91⟩, st91⟩ := Xr36.virtualBack hx (y := (⟨"com/example/multilingual_query_search/multilingualquerysearch/translation/DictdIndexEntry", "equals", "(Ljava/lang/Object;)Z"⟩ : MethodName)) (z := (⟨"com/example/multilingual_query_search/multilingualquerysearch/translation/DictdIndexEntry", "equals", "(Ljava/lang/Object;)Z"⟩ : MethodName)) hown36 (mvT hZ36 (own_k hw 45 rfl)) (mvT hZ36 (own_k hw 46 rfl)) (notFace_of_selects (args := #[]) (mvT hZ36 (own_k hw 48 rfl))) (mvT hZ36 (own_k hw 48 rfl)) (mvT hZ36 (own_k hw 47 rfl)) (by decide) (backOf (W := 0) (rmEq4 l Z a0 hw [] b26 b33 G1 bb_20 tt_20 kk_20 (Int32.ofNat (own_cs n1 x0 x1).length) (((own_cs n1 x0 x1).map (fun c => c.toInt8.toInt32)).map Value.int) (own_cs n1 x0 x1) p1 r1 bb_22 tt_22 kk_22 (Int32.ofNat (own_cs n2 y0 y1).length) (((own_cs n2 y0 y1).map (fun c => c.toInt8.toInt32)).map Value.int) (own_cs n2 y0 y1) p2 r2 T36.heap n0 f105 hS (hG) f92 (Nat.ne_of_lt (Nat.lt_of_lt_of_le p29_0.lt (Nat.le_of_eq g33.symm))) f93 f94 f95 f96 f97 f98 f99 f100 ((own_csA (hj_n1.2.1) (hj_n1.2.2))) ((own_csC (hj_n1.2.1) (hj_n1.2.2))) ((own_csL _ _ _)) p36_0 p36_1 p36_2 p36_3 f101 f102 f103 f104 ((own_csA (hj_n2.2.1) (hj_n2.2.2))) ((own_csC (hj_n2.2.1) (hj_n2.2.2))) ((own_csL _ _ _))) hZ36 (own_k hw 49 rfl) (own_k hw 29 rfl) (by decide) (by decide)) q91a q91c (g := (mkF m 333 #[.val (.int p0), .val (.int pp1), .val (.long jo1), .second, .val (.long jo2), .second, .val (.long jl1), .second, .val (.long jl2), .second, .val (.int n1), .val (.int x0), .val (.int x1), .val (.int n2), .val (.int y0), .val (.int y1), .val (.long p1), .second, .val (.long r1), .second, .val (.long p2), .second, .val (.long r2), .second, .val (.ref bb_20), .val (.ref bb_22), .val (.ref b26), .val (.ref b33), .val (.int (((p0.toUInt32 >>> ((18 : Int32) &&& 31).toUInt32).toInt32) &&& (7 : Int32))), .val (.int b29), .val (.int b30)] [(.ref b33), (.ref b26)])) rfl (by rw [hml]; rfl) (Steps.refl _) (argsL := [(.ref b33)]) (rest := []) (lenOf own_pd_3 rfl) rfl (by show 2 * 0 + _ ≤ _; exact Nat.le_of_eq rfl) (hb hby at_333) (fun _ _ => ⟨rfl, rfl, (by decide : 14 + 0 ≤ _), (by decide : 94 + 0 ≤ _)⟩)
                        dsimp only [Pt.U, Pt.locs, Pt.cells, Pt.slots] at X91 l91 y91 z91 st91 hQ91
                        subst l91 y91 z91
                        obtain ⟨Nq91, eh91, hv91⟩ := hQ91
                        have N91 := Fr.app N36 Nq91
                        rcases hv91 with ⟨hv91, hd91_0⟩ | ⟨hv91, hd91_0⟩
                        · subst hv91
                          obtain ⟨cq106, kq106, q106a, q106b, q106c⟩ := isOf hZ36 eh91 p36_0
                          obtain ⟨_, _, ⟨T106, L106, k106, n106⟩, -, X106, ⟨Lc106, hQ106, l106, y106, z106⟩, st106⟩ := X91.virtualBack hx (y := (⟨"com/example/multilingual_query_search/multilingualquerysearch/translation/DictdIndexEntry", "equals", "(Ljava/lang/Object;)Z"⟩ : MethodName)) (z := (⟨"com/example/multilingual_query_search/multilingualquerysearch/translation/DictdIndexEntry", "equals", "(Ljava/lang/Object;)Z"⟩ : MethodName)) hown36 (mvT hZ36 (own_k hw 45 rfl)) (mvT hZ36 (own_k hw 46 rfl)) (notFace_of_selects (args := #[]) (mvT hZ36 (own_k hw 48 rfl))) (mvT hZ36 (own_k hw 48 rfl)) (mvT hZ36 (own_k hw 47 rfl)) (by decide) (backOf (W := 0) (rmEq4 l Z a0 hw [] b33 b26 G1 bb_22 tt_22 kk_22 (Int32.ofNat (own_cs n2 y0 y1).length) (((own_cs n2 y0 y1).map (fun c => c.toInt8.toInt32)).map Value.int) (own_cs n2 y0 y1) p2 r2 bb_20 tt_20 kk_20 (Int32.ofNat (own_cs n1 x0 x1).length) (((own_cs n1 x0 x1).map (fun c => c.toInt8.toInt32)).map Value.int) (own_cs n1 x0 x1) p1 r1 T36.heap n0 f105 hS (hG) f92 (Ne.symm (Nat.ne_of_lt (Nat.lt_of_lt_of_le p29_0.lt (Nat.le_of_eq g33.symm)))) p36_0 p36_1 p36_2 p36_3 f101 f102 f103 f104 ((own_csA (hj_n2.2.1) (hj_n2.2.2))) ((own_csC (hj_n2.2.1) (hj_n2.2.2))) ((own_csL _ _ _)) f93 f94 f95 f96 f97 f98 f99 f100 ((own_csA (hj_n1.2.1) (hj_n1.2.2))) ((own_csC (hj_n1.2.1) (hj_n1.2.2))) ((own_csL _ _ _))) hZ36 (own_k hw 49 rfl) (own_k hw 29 rfl) (by decide) (by decide)) q106a q106c (g := (mkF m 345 #[.val (.int p0), .val (.int pp1), .val (.long jo1), .second, .val (.long jo2), .second, .val (.long jl1), .second, .val (.long jl2), .second, .val (.int n1), .val (.int x0), .val (.int x1), .val (.int n2), .val (.int y0), .val (.int y1), .val (.long p1), .second, .val (.long r1), .second, .val (.long p2), .second, .val (.long r2), .second, .val (.ref bb_20), .val (.ref bb_22), .val (.ref b26), .val (.ref b33), .val (.int (((p0.toUInt32 >>> ((18 : Int32) &&& 31).toUInt32).toInt32) &&& (7 : Int32))), .val (.int b29), .val (.int b30)] [(.ref b26), (.ref b33)])) rfl (by rw [hml]; rfl) (Steps.refl _) (argsL := [(.ref b26)]) (rest := []) (lenOf own_pd_3 rfl) rfl (by show 2 * 0 + _ ≤ _; exact Nat.le_of_eq rfl) (hb hby at_345) (fun _ _ => ⟨rfl, eh91, (by decide : 14 + 0 ≤ _), (by decide : 94 + 0 ≤ _)⟩)
                          dsimp only [Pt.U, Pt.locs, Pt.cells, Pt.slots] at X106 l106 y106 z106 st106 hQ106
                          subst l106 y106 z106
                          obtain ⟨Nq106, eh106, hv106⟩ := hQ106
                          have N106 := Fr.app N91 Nq106
                          rcases hv106 with ⟨hv106, hd106_0⟩ | ⟨hv106, hd106_0⟩
                          · subst hv106
                            have hRe := R39.trans (CHv.at X106 hZ36 hEL R39.1)
                            rw [← eh106] at hRe
                            rw [← hh] at hRe
                            obtain ⟨fs, hr, hrun, hended, hend⟩ := X106.leaveW hS36 (by rw [eh106]; exact Y36) (v := (some (.int (1 : Int32)))) (fun h => by rw [Bd.returns] at h; cases h)
                            refine ⟨_, _, preJ80 _ ?_, hrun, hended, _, _, rfl, ?_, hRe, hend.1, hend.2.1, hend.2.2.1, hend.2.2.2.mono (by decide) (by decide)⟩
                            · show Steps p.tables e below (T36.setTop (mkF m 329 #[.val (.int p0), .val (.int pp1), .val (.long jo1), .second, .val (.long jo2), .second, .val (.long jl1), .second, .val (.long jl2), .second, .val (.int n1), .val (.int x0), .val (.int x1), .val (.int n2), .val (.int y0), .val (.int y1), .val (.long p1), .second, .val (.long r1), .second, .val (.long p2), .second, .val (.long r2), .second, .val (.ref bb_20), .val (.ref bb_22), .val (.ref b26), .val (.ref b33), .val (.int (((p0.toUInt32 >>> ((18 : Int32) &&& 31).toUInt32).toInt32) &&& (7 : Int32))), .val (.int b29), .val (.int b30)] [])) _
                              refine XS.aload Xr36.here hx rfl (hb hby at_329) rfl rfl ?_
                              show Steps p.tables e below (T36.setTop (mkF m 331 #[.val (.int p0), .val (.int pp1), .val (.long jo1), .second, .val (.long jo2), .second, .val (.long jl1), .second, .val (.long jl2), .second, .val (.int n1), .val (.int x0), .val (.int x1), .val (.int n2), .val (.int y0), .val (.int y1), .val (.long p1), .second, .val (.long r1), .second, .val (.long p2), .second, .val (.long r2), .second, .val (.ref bb_20), .val (.ref bb_22), .val (.ref b26), .val (.ref b33), .val (.int (((p0.toUInt32 >>> ((18 : Int32) &&& 31).toUInt32).toInt32) &&& (7 : Int32))), .val (.int b29), .val (.int b30)] [(.ref b26)])) _
                              refine XS.aload Xr36.here hx rfl (hb hby at_331) rfl rfl ?_
                              show Steps p.tables e below (T36.setTop (mkF m 333 #[.val (.int p0), .val (.int pp1), .val (.long jo1), .second, .val (.long jo2), .second, .val (.long jl1), .second, .val (.long jl2), .second, .val (.int n1), .val (.int x0), .val (.int x1), .val (.int n2), .val (.int y0), .val (.int y1), .val (.long p1), .second, .val (.long r1), .second, .val (.long p2), .second, .val (.long r2), .second, .val (.ref bb_20), .val (.ref bb_22), .val (.ref b26), .val (.ref b33), .val (.int (((p0.toUInt32 >>> ((18 : Int32) &&& 31).toUInt32).toInt32) &&& (7 : Int32))), .val (.int b29), .val (.int b30)] [(.ref b33), (.ref b26)])) _
                              refine st91.trans ?_
                              show Steps p.tables e below (T91.setTop (mkF m 336 #[.val (.int p0), .val (.int pp1), .val (.long jo1), .second, .val (.long jo2), .second, .val (.long jl1), .second, .val (.long jl2), .second, .val (.int n1), .val (.int x0), .val (.int x1), .val (.int n2), .val (.int y0), .val (.int y1), .val (.long p1), .second, .val (.long r1), .second, .val (.long p2), .second, .val (.long r2), .second, .val (.ref bb_20), .val (.ref bb_22), .val (.ref b26), .val (.ref b33), .val (.int (((p0.toUInt32 >>> ((18 : Int32) &&& 31).toUInt32).toInt32) &&& (7 : Int32))), .val (.int b29), .val (.int b30)] [(.int (1 : Int32))])) _
                              refine XS.iload X91.here hx rfl (hb hby at_336) rfl ?_
                              show Steps p.tables e below (T91.setTop (mkF m 338 #[.val (.int p0), .val (.int pp1), .val (.long jo1), .second, .val (.long jo2), .second, .val (.long jl1), .second, .val (.long jl2), .second, .val (.int n1), .val (.int x0), .val (.int x1), .val (.int n2), .val (.int y0), .val (.int y1), .val (.long p1), .second, .val (.long r1), .second, .val (.long p2), .second, .val (.long r2), .second, .val (.ref bb_20), .val (.ref bb_22), .val (.ref b26), .val (.ref b33), .val (.int (((p0.toUInt32 >>> ((18 : Int32) &&& 31).toUInt32).toInt32) &&& (7 : Int32))), .val (.int b29), .val (.int b30)] [(.int b30), (.int (1 : Int32))])) _
                              refine XS.icmpNo X91.here hx rfl (hb hby at_338) rfl (teq (by rw [hb30] <;> decide)).2 ?_
                              show Steps p.tables e below (T91.setTop (mkF m 341 #[.val (.int p0), .val (.int pp1), .val (.long jo1), .second, .val (.long jo2), .second, .val (.long jl1), .second, .val (.long jl2), .second, .val (.int n1), .val (.int x0), .val (.int x1), .val (.int n2), .val (.int y0), .val (.int y1), .val (.long p1), .second, .val (.long r1), .second, .val (.long p2), .second, .val (.long r2), .second, .val (.ref bb_20), .val (.ref bb_22), .val (.ref b26), .val (.ref b33), .val (.int (((p0.toUInt32 >>> ((18 : Int32) &&& 31).toUInt32).toInt32) &&& (7 : Int32))), .val (.int b29), .val (.int b30)] [])) _
                              refine XS.aload X91.here hx rfl (hb hby at_341) rfl rfl ?_
                              show Steps p.tables e below (T91.setTop (mkF m 343 #[.val (.int p0), .val (.int pp1), .val (.long jo1), .second, .val (.long jo2), .second, .val (.long jl1), .second, .val (.long jl2), .second, .val (.int n1), .val (.int x0), .val (.int x1), .val (.int n2), .val (.int y0), .val (.int y1), .val (.long p1), .second, .val (.long r1), .second, .val (.long p2), .second, .val (.long r2), .second, .val (.ref bb_20), .val (.ref bb_22), .val (.ref b26), .val (.ref b33), .val (.int (((p0.toUInt32 >>> ((18 : Int32) &&& 31).toUInt32).toInt32) &&& (7 : Int32))), .val (.int b29), .val (.int b30)] [(.ref b33)])) _
                              refine XS.aload X91.here hx rfl (hb hby at_343) rfl rfl ?_
                              show Steps p.tables e below (T91.setTop (mkF m 345 #[.val (.int p0), .val (.int pp1), .val (.long jo1), .second, .val (.long jo2), .second, .val (.long jl1), .second, .val (.long jl2), .second, .val (.int n1), .val (.int x0), .val (.int x1), .val (.int n2), .val (.int y0), .val (.int y1), .val (.long p1), .second, .val (.long r1), .second, .val (.long p2), .second, .val (.long r2), .second, .val (.ref bb_20), .val (.ref bb_22), .val (.ref b26), .val (.ref b33), .val (.int (((p0.toUInt32 >>> ((18 : Int32) &&& 31).toUInt32).toInt32) &&& (7 : Int32))), .val (.int b29), .val (.int b30)] [(.ref b26), (.ref b33)])) _
                              refine st106.trans ?_
                              show Steps p.tables e below (T106.setTop (mkF m 348 #[.val (.int p0), .val (.int pp1), .val (.long jo1), .second, .val (.long jo2), .second, .val (.long jl1), .second, .val (.long jl2), .second, .val (.int n1), .val (.int x0), .val (.int x1), .val (.int n2), .val (.int y0), .val (.int y1), .val (.long p1), .second, .val (.long r1), .second, .val (.long p2), .second, .val (.long r2), .second, .val (.ref bb_20), .val (.ref bb_22), .val (.ref b26), .val (.ref b33), .val (.int (((p0.toUInt32 >>> ((18 : Int32) &&& 31).toUInt32).toInt32) &&& (7 : Int32))), .val (.int b29), .val (.int b30)] [(.int (1 : Int32))])) _
                              refine XS.iload X106.here hx rfl (hb hby at_348) rfl ?_
                              show Steps p.tables e below (T106.setTop (mkF m 350 #[.val (.int p0), .val (.int pp1), .val (.long jo1), .second, .val (.long jo2), .second, .val (.long jl1), .second, .val (.long jl2), .second, .val (.int n1), .val (.int x0), .val (.int x1), .val (.int n2), .val (.int y0), .val (.int y1), .val (.long p1), .second, .val (.long r1), .second, .val (.long p2), .second, .val (.long r2), .second, .val (.ref bb_20), .val (.ref bb_22), .val (.ref b26), .val (.ref b33), .val (.int (((p0.toUInt32 >>> ((18 : Int32) &&& 31).toUInt32).toInt32) &&& (7 : Int32))), .val (.int b29), .val (.int b30)] [(.int b30), (.int (1 : Int32))])) _
                              refine XS.icmpNo X106.here hx rfl (hb hby at_350) rfl (teq (by rw [hb30] <;> decide)).2 ?_
                              show Steps p.tables e below (T106.setTop (mkF m 353 #[.val (.int p0), .val (.int pp1), .val (.long jo1), .second, .val (.long jo2), .second, .val (.long jl1), .second, .val (.long jl2), .second, .val (.int n1), .val (.int x0), .val (.int x1), .val (.int n2), .val (.int y0), .val (.int y1), .val (.long p1), .second, .val (.long r1), .second, .val (.long p2), .second, .val (.long r2), .second, .val (.ref bb_20), .val (.ref bb_22), .val (.ref b26), .val (.ref b33), .val (.int (((p0.toUInt32 >>> ((18 : Int32) &&& 31).toUInt32).toInt32) &&& (7 : Int32))), .val (.int b29), .val (.int b30)] [])) _
                              refine XS.iconst X106.here hx rfl (hb hby at_353) ?_
                              show Steps p.tables e below (T106.setTop (mkF m 354 #[.val (.int p0), .val (.int pp1), .val (.long jo1), .second, .val (.long jo2), .second, .val (.long jl1), .second, .val (.long jl2), .second, .val (.int n1), .val (.int x0), .val (.int x1), .val (.int n2), .val (.int y0), .val (.int y1), .val (.long p1), .second, .val (.long r1), .second, .val (.long p2), .second, .val (.long r2), .second, .val (.ref bb_20), .val (.ref bb_22), .val (.ref b26), .val (.ref b33), .val (.int (((p0.toUInt32 >>> ((18 : Int32) &&& 31).toUInt32).toInt32) &&& (7 : Int32))), .val (.int b29), .val (.int b30)] [(.int (1 : Int32))])) _
                              refine XS.goto X106.here hx rfl (pc0 := 354) (pc' := 358) rfl (hb hby at_354) (by decide) (by decide) ?_
                              show Steps p.tables e below (T106.setTop (mkF m 358 #[.val (.int p0), .val (.int pp1), .val (.long jo1), .second, .val (.long jo2), .second, .val (.long jl1), .second, .val (.long jl2), .second, .val (.int n1), .val (.int x0), .val (.int x1), .val (.int n2), .val (.int y0), .val (.int y1), .val (.long p1), .second, .val (.long r1), .second, .val (.long p2), .second, .val (.long r2), .second, .val (.ref bb_20), .val (.ref bb_22), .val (.ref b26), .val (.ref b33), .val (.int (((p0.toUInt32 >>> ((18 : Int32) &&& 31).toUInt32).toInt32) &&& (7 : Int32))), .val (.int b29), .val (.int b30)] [(.int (1 : Int32))])) _
                              exact retN X106 hx (t := .boolean) Bd.returns (by simp) (hb hby at_358) hr
                            · show Q0 Z p0 pp1 jo1 jo2 jl1 jl2 G1 h0 n0 _ T106.heap _
                              rw [eh106]
                              exact ⟨N106, rfl⟩
                          · subst hv106
                            exact absurd ((fun q => ⟨q.1.symm, q.2.1.symm, q.2.2.symm⟩) hA) hd106_0
                        · subst hv91
                          exact absurd hA hd91_0
                      · skip
                        have f108 : Old Z n0 T36.heap := (((((f23.keep Kq22 all0).ext E26).keep Kq29 (allS g_b26 all0)).ext E33).keep Kq36 (allS g_b33 all0))
                        have f109 : Exa Z T36.heap b26 "com/example/multilingual_query_search/multilingualquerysearch/translation/DictdIndexEntry" := ((p29_0.ext E33).keep Kq36)
                        have f110 : Fld Z T36.heap b26 "com/example/multilingual_query_search/multilingualquerysearch/translation/DictdIndexEntry" "headword" "Ljava/lang/String;" (.ref bb_20) := ((p29_1.ext E33).keep Kq36 (ninS (Nat.ne_of_lt (Nat.lt_of_lt_of_le p29_0.lt (Nat.le_of_eq g33.symm))) nin0))
                        have f111 : Fld Z T36.heap b26 "com/example/multilingual_query_search/multilingualquerysearch/translation/DictdIndexEntry" "offset" "J" (.long p1) := ((p29_2.ext E33).keep Kq36 (ninS (Nat.ne_of_lt (Nat.lt_of_lt_of_le p29_0.lt (Nat.le_of_eq g33.symm))) nin0))
                        have f112 : Fld Z T36.heap b26 "com/example/multilingual_query_search/multilingualquerysearch/translation/DictdIndexEntry" "length" "J" (.long r1) := ((p29_3.ext E33).keep Kq36 (ninS (Nat.ne_of_lt (Nat.lt_of_lt_of_le p29_0.lt (Nat.le_of_eq g33.symm))) nin0))
                        have f113 : Exa Z T36.heap bb_20 "java/lang/String" := (((((p20_1.keep Kq22).ext E26).keep Kq29).ext E33).keep Kq36)
                        have f114 : Fld Z T36.heap bb_20 "java/lang/String" "value" "[B" (.ref tt_20) := (((((p20_3.keep Kq22 nin0).ext E26).keep Kq29 (ninS (Nat.ne_of_lt (Nat.lt_of_lt_of_le (p20_1.keep Kq22).lt (Nat.le_of_eq g26.symm))) nin0)).ext E33).keep Kq36 (ninS (Nat.ne_of_lt (Nat.lt_of_lt_of_le (((p20_1.keep Kq22).ext E26).keep Kq29).lt (Nat.le_of_eq g33.symm))) nin0))
                        have f115 : Fld Z T36.heap bb_20 "java/lang/String" "coder" "B" (.int (0 : Int32)) := (((((p20_2.keep Kq22 nin0).ext E26).keep Kq29 (ninS (Nat.ne_of_lt (Nat.lt_of_lt_of_le (p20_1.keep Kq22).lt (Nat.le_of_eq g26.symm))) nin0)).ext E33).keep Kq36 (ninS (Nat.ne_of_lt (Nat.lt_of_lt_of_le (((p20_1.keep Kq22).ext E26).keep Kq29).lt (Nat.le_of_eq g33.symm))) nin0))
                        have f116 : Arv Z T36.heap tt_20 kk_20 .byte (Int32.ofNat (own_cs n1 x0 x1).length) (((own_cs n1 x0 x1).map (fun c => c.toInt8.toInt32)).map Value.int) (.int (0 : Int32)) := (((((p20_4.keep Kq22 nin0).ext E26).keep Kq29 (ninS (Nat.ne_of_lt (Nat.lt_of_lt_of_le (p20_4.keep Kq22 nin0).lt (Nat.le_of_eq g26.symm))) nin0)).ext E33).keep Kq36 (ninS (Nat.ne_of_lt (Nat.lt_of_lt_of_le (((p20_4.keep Kq22 nin0).ext E26).keep Kq29 (ninS (Nat.ne_of_lt (Nat.lt_of_lt_of_le (p20_4.keep Kq22 nin0).lt (Nat.le_of_eq g26.symm))) nin0)).lt (Nat.le_of_eq g33.symm))) nin0))
                        have f117 : Exa Z T36.heap bb_22 "java/lang/String" := ((((p22_1.ext E26).keep Kq29).ext E33).keep Kq36)
                        have f118 : Fld Z T36.heap bb_22 "java/lang/String" "value" "[B" (.ref tt_22) := ((((p22_3.ext E26).keep Kq29 (ninS (Nat.ne_of_lt (Nat.lt_of_lt_of_le p22_1.lt (Nat.le_of_eq g26.symm))) nin0)).ext E33).keep Kq36 (ninS (Nat.ne_of_lt (Nat.lt_of_lt_of_le ((p22_1.ext E26).keep Kq29).lt (Nat.le_of_eq g33.symm))) nin0))
                        have f119 : Fld Z T36.heap bb_22 "java/lang/String" "coder" "B" (.int (0 : Int32)) := ((((p22_2.ext E26).keep Kq29 (ninS (Nat.ne_of_lt (Nat.lt_of_lt_of_le p22_1.lt (Nat.le_of_eq g26.symm))) nin0)).ext E33).keep Kq36 (ninS (Nat.ne_of_lt (Nat.lt_of_lt_of_le ((p22_1.ext E26).keep Kq29).lt (Nat.le_of_eq g33.symm))) nin0))
                        have f120 : Arv Z T36.heap tt_22 kk_22 .byte (Int32.ofNat (own_cs n2 y0 y1).length) (((own_cs n2 y0 y1).map (fun c => c.toInt8.toInt32)).map Value.int) (.int (0 : Int32)) := ((((p22_4.ext E26).keep Kq29 (ninS (Nat.ne_of_lt (Nat.lt_of_lt_of_le p22_4.lt (Nat.le_of_eq g26.symm))) nin0)).ext E33).keep Kq36 (ninS (Nat.ne_of_lt (Nat.lt_of_lt_of_le ((p22_4.ext E26).keep Kq29 (ninS (Nat.ne_of_lt (Nat.lt_of_lt_of_le p22_4.lt (Nat.le_of_eq g26.symm))) nin0)).lt (Nat.le_of_eq g33.symm))) nin0))
                        have f121 : n0 ≤ T36.heap.size := (Nat.le_trans f37 Kq36.1)
                        obtain ⟨cq107, kq107, q107a, q107b, q107c⟩ := isOf hZ36 rfl f109
                        obtain ⟨_, _, ⟨T107, L107, k107, n107⟩, -, X107, ⟨Lc107, hQ107, l107, y107, z107⟩, st107⟩ := Xr36.virtualBack hx (y := (⟨"com/example/multilingual_query_search/multilingualquerysearch/translation/DictdIndexEntry", "equals", "(Ljava/lang/Object;)Z"⟩ : MethodName)) (z := (⟨"com/example/multilingual_query_search/multilingualquerysearch/translation/DictdIndexEntry", "equals", "(Ljava/lang/Object;)Z"⟩ : MethodName)) hown36 (mvT hZ36 (own_k hw 45 rfl)) (mvT hZ36 (own_k hw 46 rfl)) (notFace_of_selects (args := #[]) (mvT hZ36 (own_k hw 48 rfl))) (mvT hZ36 (own_k hw 48 rfl)) (mvT hZ36 (own_k hw 47 rfl)) (by decide) (backOf (W := 0) (rmEq4 l Z a0 hw [] b26 b33 G1 bb_20 tt_20 kk_20 (Int32.ofNat (own_cs n1 x0 x1).length) (((own_cs n1 x0 x1).map (fun c => c.toInt8.toInt32)).map Value.int) (own_cs n1 x0 x1) p1 r1 bb_22 tt_22 kk_22 (Int32.ofNat (own_cs n2 y0 y1).length) (((own_cs n2 y0 y1).map (fun c => c.toInt8.toInt32)).map Value.int) (own_cs n2 y0 y1) p2 r2 T36.heap n0 f121 hS (hG) f108 (Nat.ne_of_lt (Nat.lt_of_lt_of_le p29_0.lt (Nat.le_of_eq g33.symm))) f109 f110 f111 f112 f113 f114 f115 f116 ((own_csA (hj_n1.2.1) (hj_n1.2.2))) ((own_csC (hj_n1.2.1) (hj_n1.2.2))) ((own_csL _ _ _)) p36_0 p36_1 p36_2 p36_3 f117 f118 f119 f120 ((own_csA (hj_n2.2.1) (hj_n2.2.2))) ((own_csC (hj_n2.2.1) (hj_n2.2.2))) ((own_csL _ _ _))) hZ36 (own_k hw 49 rfl) (own_k hw 29 rfl) (by decide) (by decide)) q107a q107c (g := (mkF m 333 #[.val (.int p0), .val (.int pp1), .val (.long jo1), .second, .val (.long jo2), .second, .val (.long jl1), .second, .val (.long jl2), .second, .val (.int n1), .val (.int x0), .val (.int x1), .val (.int n2), .val (.int y0), .val (.int y1), .val (.long p1), .second, .val (.long r1), .second, .val (.long p2), .second, .val (.long r2), .second, .val (.ref bb_20), .val (.ref bb_22), .val (.ref b26), .val (.ref b33), .val (.int (((p0.toUInt32 >>> ((18 : Int32) &&& 31).toUInt32).toInt32) &&& (7 : Int32))), .val (.int b29), .val (.int b30)] [(.ref b33), (.ref b26)])) rfl (by rw [hml]; rfl) (Steps.refl _) (argsL := [(.ref b33)]) (rest := []) (lenOf own_pd_3 rfl) rfl (by show 2 * 0 + _ ≤ _; exact Nat.le_of_eq rfl) (hb hby at_333) (fun _ _ => ⟨rfl, rfl, (by decide : 14 + 0 ≤ _), (by decide : 94 + 0 ≤ _)⟩)
                        dsimp only [Pt.U, Pt.locs, Pt.cells, Pt.slots] at X107 l107 y107 z107 st107 hQ107
                        subst l107 y107 z107
                        obtain ⟨Nq107, eh107, hv107⟩ := hQ107
                        have N107 := Fr.app N36 Nq107
                        rcases hv107 with ⟨hv107, hd107_0⟩ | ⟨hv107, hd107_0⟩
                        · subst hv107
                          exact absurd hd107_0 hA
                        · subst hv107
                          obtain ⟨cq122, kq122, q122a, q122b, q122c⟩ := isOf hZ36 eh107 p36_0
                          obtain ⟨_, _, ⟨T122, L122, k122, n122⟩, -, X122, ⟨Lc122, hQ122, l122, y122, z122⟩, st122⟩ := X107.virtualBack hx (y := (⟨"com/example/multilingual_query_search/multilingualquerysearch/translation/DictdIndexEntry", "equals", "(Ljava/lang/Object;)Z"⟩ : MethodName)) (z := (⟨"com/example/multilingual_query_search/multilingualquerysearch/translation/DictdIndexEntry", "equals", "(Ljava/lang/Object;)Z"⟩ : MethodName)) hown36 (mvT hZ36 (own_k hw 45 rfl)) (mvT hZ36 (own_k hw 46 rfl)) (notFace_of_selects (args := #[]) (mvT hZ36 (own_k hw 48 rfl))) (mvT hZ36 (own_k hw 48 rfl)) (mvT hZ36 (own_k hw 47 rfl)) (by decide) (backOf (W := 0) (rmEq4 l Z a0 hw [] b33 b26 G1 bb_22 tt_22 kk_22 (Int32.ofNat (own_cs n2 y0 y1).length) (((own_cs n2 y0 y1).map (fun c => c.toInt8.toInt32)).map Value.int) (own_cs n2 y0 y1) p2 r2 bb_20 tt_20 kk_20 (Int32.ofNat (own_cs n1 x0 x1).length) (((own_cs n1 x0 x1).map (fun c => c.toInt8.toInt32)).map Value.int) (own_cs n1 x0 x1) p1 r1 T36.heap n0 f121 hS (hG) f108 (Ne.symm (Nat.ne_of_lt (Nat.lt_of_lt_of_le p29_0.lt (Nat.le_of_eq g33.symm)))) p36_0 p36_1 p36_2 p36_3 f117 f118 f119 f120 ((own_csA (hj_n2.2.1) (hj_n2.2.2))) ((own_csC (hj_n2.2.1) (hj_n2.2.2))) ((own_csL _ _ _)) f109 f110 f111 f112 f113 f114 f115 f116 ((own_csA (hj_n1.2.1) (hj_n1.2.2))) ((own_csC (hj_n1.2.1) (hj_n1.2.2))) ((own_csL _ _ _))) hZ36 (own_k hw 49 rfl) (own_k hw 29 rfl) (by decide) (by decide)) q122a q122c (g := (mkF m 345 #[.val (.int p0), .val (.int pp1), .val (.long jo1), .second, .val (.long jo2), .second, .val (.long jl1), .second, .val (.long jl2), .second, .val (.int n1), .val (.int x0), .val (.int x1), .val (.int n2), .val (.int y0), .val (.int y1), .val (.long p1), .second, .val (.long r1), .second, .val (.long p2), .second, .val (.long r2), .second, .val (.ref bb_20), .val (.ref bb_22), .val (.ref b26), .val (.ref b33), .val (.int (((p0.toUInt32 >>> ((18 : Int32) &&& 31).toUInt32).toInt32) &&& (7 : Int32))), .val (.int b29), .val (.int b30)] [(.ref b26), (.ref b33)])) rfl (by rw [hml]; rfl) (Steps.refl _) (argsL := [(.ref b26)]) (rest := []) (lenOf own_pd_3 rfl) rfl (by show 2 * 0 + _ ≤ _; exact Nat.le_of_eq rfl) (hb hby at_345) (fun _ _ => ⟨rfl, eh107, (by decide : 14 + 0 ≤ _), (by decide : 94 + 0 ≤ _)⟩)
                          dsimp only [Pt.U, Pt.locs, Pt.cells, Pt.slots] at X122 l122 y122 z122 st122 hQ122
                          subst l122 y122 z122
                          obtain ⟨Nq122, eh122, hv122⟩ := hQ122
                          have N122 := Fr.app N107 Nq122
                          rcases hv122 with ⟨hv122, hd122_0⟩ | ⟨hv122, hd122_0⟩
                          · subst hv122
                            exact absurd ((fun q => ⟨q.1.symm, q.2.1.symm, q.2.2.symm⟩) hd122_0) hA
                          · subst hv122
                            have hRe := R39.trans (CHv.at X122 hZ36 hEL R39.1)
                            rw [← eh122] at hRe
                            rw [← hh] at hRe
                            obtain ⟨fs, hr, hrun, hended, hend⟩ := X122.leaveW hS36 (by rw [eh122]; exact Y36) (v := (some (.int (1 : Int32)))) (fun h => by rw [Bd.returns] at h; cases h)
                            refine ⟨_, _, preJ80 _ ?_, hrun, hended, _, _, rfl, ?_, hRe, hend.1, hend.2.1, hend.2.2.1, hend.2.2.2.mono (by decide) (by decide)⟩
                            · show Steps p.tables e below (T36.setTop (mkF m 329 #[.val (.int p0), .val (.int pp1), .val (.long jo1), .second, .val (.long jo2), .second, .val (.long jl1), .second, .val (.long jl2), .second, .val (.int n1), .val (.int x0), .val (.int x1), .val (.int n2), .val (.int y0), .val (.int y1), .val (.long p1), .second, .val (.long r1), .second, .val (.long p2), .second, .val (.long r2), .second, .val (.ref bb_20), .val (.ref bb_22), .val (.ref b26), .val (.ref b33), .val (.int (((p0.toUInt32 >>> ((18 : Int32) &&& 31).toUInt32).toInt32) &&& (7 : Int32))), .val (.int b29), .val (.int b30)] [])) _
                              refine XS.aload Xr36.here hx rfl (hb hby at_329) rfl rfl ?_
                              show Steps p.tables e below (T36.setTop (mkF m 331 #[.val (.int p0), .val (.int pp1), .val (.long jo1), .second, .val (.long jo2), .second, .val (.long jl1), .second, .val (.long jl2), .second, .val (.int n1), .val (.int x0), .val (.int x1), .val (.int n2), .val (.int y0), .val (.int y1), .val (.long p1), .second, .val (.long r1), .second, .val (.long p2), .second, .val (.long r2), .second, .val (.ref bb_20), .val (.ref bb_22), .val (.ref b26), .val (.ref b33), .val (.int (((p0.toUInt32 >>> ((18 : Int32) &&& 31).toUInt32).toInt32) &&& (7 : Int32))), .val (.int b29), .val (.int b30)] [(.ref b26)])) _
                              refine XS.aload Xr36.here hx rfl (hb hby at_331) rfl rfl ?_
                              show Steps p.tables e below (T36.setTop (mkF m 333 #[.val (.int p0), .val (.int pp1), .val (.long jo1), .second, .val (.long jo2), .second, .val (.long jl1), .second, .val (.long jl2), .second, .val (.int n1), .val (.int x0), .val (.int x1), .val (.int n2), .val (.int y0), .val (.int y1), .val (.long p1), .second, .val (.long r1), .second, .val (.long p2), .second, .val (.long r2), .second, .val (.ref bb_20), .val (.ref bb_22), .val (.ref b26), .val (.ref b33), .val (.int (((p0.toUInt32 >>> ((18 : Int32) &&& 31).toUInt32).toInt32) &&& (7 : Int32))), .val (.int b29), .val (.int b30)] [(.ref b33), (.ref b26)])) _
                              refine st107.trans ?_
                              show Steps p.tables e below (T107.setTop (mkF m 336 #[.val (.int p0), .val (.int pp1), .val (.long jo1), .second, .val (.long jo2), .second, .val (.long jl1), .second, .val (.long jl2), .second, .val (.int n1), .val (.int x0), .val (.int x1), .val (.int n2), .val (.int y0), .val (.int y1), .val (.long p1), .second, .val (.long r1), .second, .val (.long p2), .second, .val (.long r2), .second, .val (.ref bb_20), .val (.ref bb_22), .val (.ref b26), .val (.ref b33), .val (.int (((p0.toUInt32 >>> ((18 : Int32) &&& 31).toUInt32).toInt32) &&& (7 : Int32))), .val (.int b29), .val (.int b30)] [(.int (0 : Int32))])) _
                              refine XS.iload X107.here hx rfl (hb hby at_336) rfl ?_
                              show Steps p.tables e below (T107.setTop (mkF m 338 #[.val (.int p0), .val (.int pp1), .val (.long jo1), .second, .val (.long jo2), .second, .val (.long jl1), .second, .val (.long jl2), .second, .val (.int n1), .val (.int x0), .val (.int x1), .val (.int n2), .val (.int y0), .val (.int y1), .val (.long p1), .second, .val (.long r1), .second, .val (.long p2), .second, .val (.long r2), .second, .val (.ref bb_20), .val (.ref bb_22), .val (.ref b26), .val (.ref b33), .val (.int (((p0.toUInt32 >>> ((18 : Int32) &&& 31).toUInt32).toInt32) &&& (7 : Int32))), .val (.int b29), .val (.int b30)] [(.int b30), (.int (0 : Int32))])) _
                              refine XS.icmpNo X107.here hx rfl (hb hby at_338) rfl (teq (by rw [hb30] <;> decide)).2 ?_
                              show Steps p.tables e below (T107.setTop (mkF m 341 #[.val (.int p0), .val (.int pp1), .val (.long jo1), .second, .val (.long jo2), .second, .val (.long jl1), .second, .val (.long jl2), .second, .val (.int n1), .val (.int x0), .val (.int x1), .val (.int n2), .val (.int y0), .val (.int y1), .val (.long p1), .second, .val (.long r1), .second, .val (.long p2), .second, .val (.long r2), .second, .val (.ref bb_20), .val (.ref bb_22), .val (.ref b26), .val (.ref b33), .val (.int (((p0.toUInt32 >>> ((18 : Int32) &&& 31).toUInt32).toInt32) &&& (7 : Int32))), .val (.int b29), .val (.int b30)] [])) _
                              refine XS.aload X107.here hx rfl (hb hby at_341) rfl rfl ?_
                              show Steps p.tables e below (T107.setTop (mkF m 343 #[.val (.int p0), .val (.int pp1), .val (.long jo1), .second, .val (.long jo2), .second, .val (.long jl1), .second, .val (.long jl2), .second, .val (.int n1), .val (.int x0), .val (.int x1), .val (.int n2), .val (.int y0), .val (.int y1), .val (.long p1), .second, .val (.long r1), .second, .val (.long p2), .second, .val (.long r2), .second, .val (.ref bb_20), .val (.ref bb_22), .val (.ref b26), .val (.ref b33), .val (.int (((p0.toUInt32 >>> ((18 : Int32) &&& 31).toUInt32).toInt32) &&& (7 : Int32))), .val (.int b29), .val (.int b30)] [(.ref b33)])) _
                              refine XS.aload X107.here hx rfl (hb hby at_343) rfl rfl ?_
                              show Steps p.tables e below (T107.setTop (mkF m 345 #[.val (.int p0), .val (.int pp1), .val (.long jo1), .second, .val (.long jo2), .second, .val (.long jl1), .second, .val (.long jl2), .second, .val (.int n1), .val (.int x0), .val (.int x1), .val (.int n2), .val (.int y0), .val (.int y1), .val (.long p1), .second, .val (.long r1), .second, .val (.long p2), .second, .val (.long r2), .second, .val (.ref bb_20), .val (.ref bb_22), .val (.ref b26), .val (.ref b33), .val (.int (((p0.toUInt32 >>> ((18 : Int32) &&& 31).toUInt32).toInt32) &&& (7 : Int32))), .val (.int b29), .val (.int b30)] [(.ref b26), (.ref b33)])) _
                              refine st122.trans ?_
                              show Steps p.tables e below (T122.setTop (mkF m 348 #[.val (.int p0), .val (.int pp1), .val (.long jo1), .second, .val (.long jo2), .second, .val (.long jl1), .second, .val (.long jl2), .second, .val (.int n1), .val (.int x0), .val (.int x1), .val (.int n2), .val (.int y0), .val (.int y1), .val (.long p1), .second, .val (.long r1), .second, .val (.long p2), .second, .val (.long r2), .second, .val (.ref bb_20), .val (.ref bb_22), .val (.ref b26), .val (.ref b33), .val (.int (((p0.toUInt32 >>> ((18 : Int32) &&& 31).toUInt32).toInt32) &&& (7 : Int32))), .val (.int b29), .val (.int b30)] [(.int (0 : Int32))])) _
                              refine XS.iload X122.here hx rfl (hb hby at_348) rfl ?_
                              show Steps p.tables e below (T122.setTop (mkF m 350 #[.val (.int p0), .val (.int pp1), .val (.long jo1), .second, .val (.long jo2), .second, .val (.long jl1), .second, .val (.long jl2), .second, .val (.int n1), .val (.int x0), .val (.int x1), .val (.int n2), .val (.int y0), .val (.int y1), .val (.long p1), .second, .val (.long r1), .second, .val (.long p2), .second, .val (.long r2), .second, .val (.ref bb_20), .val (.ref bb_22), .val (.ref b26), .val (.ref b33), .val (.int (((p0.toUInt32 >>> ((18 : Int32) &&& 31).toUInt32).toInt32) &&& (7 : Int32))), .val (.int b29), .val (.int b30)] [(.int b30), (.int (0 : Int32))])) _
                              refine XS.icmpNo X122.here hx rfl (hb hby at_350) rfl (teq (by rw [hb30] <;> decide)).2 ?_
                              show Steps p.tables e below (T122.setTop (mkF m 353 #[.val (.int p0), .val (.int pp1), .val (.long jo1), .second, .val (.long jo2), .second, .val (.long jl1), .second, .val (.long jl2), .second, .val (.int n1), .val (.int x0), .val (.int x1), .val (.int n2), .val (.int y0), .val (.int y1), .val (.long p1), .second, .val (.long r1), .second, .val (.long p2), .second, .val (.long r2), .second, .val (.ref bb_20), .val (.ref bb_22), .val (.ref b26), .val (.ref b33), .val (.int (((p0.toUInt32 >>> ((18 : Int32) &&& 31).toUInt32).toInt32) &&& (7 : Int32))), .val (.int b29), .val (.int b30)] [])) _
                              refine XS.iconst X122.here hx rfl (hb hby at_353) ?_
                              show Steps p.tables e below (T122.setTop (mkF m 354 #[.val (.int p0), .val (.int pp1), .val (.long jo1), .second, .val (.long jo2), .second, .val (.long jl1), .second, .val (.long jl2), .second, .val (.int n1), .val (.int x0), .val (.int x1), .val (.int n2), .val (.int y0), .val (.int y1), .val (.long p1), .second, .val (.long r1), .second, .val (.long p2), .second, .val (.long r2), .second, .val (.ref bb_20), .val (.ref bb_22), .val (.ref b26), .val (.ref b33), .val (.int (((p0.toUInt32 >>> ((18 : Int32) &&& 31).toUInt32).toInt32) &&& (7 : Int32))), .val (.int b29), .val (.int b30)] [(.int (1 : Int32))])) _
                              refine XS.goto X122.here hx rfl (pc0 := 354) (pc' := 358) rfl (hb hby at_354) (by decide) (by decide) ?_
                              show Steps p.tables e below (T122.setTop (mkF m 358 #[.val (.int p0), .val (.int pp1), .val (.long jo1), .second, .val (.long jo2), .second, .val (.long jl1), .second, .val (.long jl2), .second, .val (.int n1), .val (.int x0), .val (.int x1), .val (.int n2), .val (.int y0), .val (.int y1), .val (.long p1), .second, .val (.long r1), .second, .val (.long p2), .second, .val (.long r2), .second, .val (.ref bb_20), .val (.ref bb_22), .val (.ref b26), .val (.ref b33), .val (.int (((p0.toUInt32 >>> ((18 : Int32) &&& 31).toUInt32).toInt32) &&& (7 : Int32))), .val (.int b29), .val (.int b30)] [(.int (1 : Int32))])) _
                              exact retN X122 hx (t := .boolean) Bd.returns (by simp) (hb hby at_358) hr
                            · show Q0 Z p0 pp1 jo1 jo2 jl1 jl2 G1 h0 n0 _ T122.heap _
                              rw [eh122]
                              exact ⟨N122, rfl⟩
set_option maxRecDepth 65536 in
set_option maxHeartbeats 40000000 in
theorem comes_1 {Post : Tables → Env → Array Value → State → Outcome → State → Prop} (hpost : ∀ tb e args s v u, (limb_1_1.after args s (.returned v) u = true ∧ limb_1_2.after args s (.returned v) u = true ∧ True) → ReturnedEndW s (.returned v) u (Jvm.fieldLocs frame_1_writes args s ++ Jvm.arrayLocs frame_1_arrays args s ++ Jvm.staticLocs frame_1_statics s) 32 2176 → Post tb e args s (.returned v) u) :
    ArmFor flags0 classFile x code maxLocals ret World_1 tables_1 room_1 Calls_1 rest_1 Pre_1 Post := by
  intro l hfl _ _ p e ha hc hk s m args below hf hA hF happ hP
  obtain ⟨hcalls, hrest, hpre⟩ := hP
  obtain ⟨-, -, -, hnamed, -, -, -, hat⟩ := (Spec.applies_iff hf).mp happ
  obtain ⟨hg, hn⟩ := and_e (Cond.before_iff.mp (show (Jvm.Cond.and given_1 narrow_1).before args s = true from hpre))
  obtain ⟨gv1, gv2⟩ := and_e hg
  obtain ⟨gv3, gv4⟩ := and_e gv2
  obtain ⟨gv5, gv6⟩ := and_e gv4
  obtain ⟨gv7, gv8⟩ := and_e gv6
  obtain ⟨gv9, gv10⟩ := and_e gv8
  obtain ⟨gv11, gv12⟩ := and_e gv10
  obtain ⟨w0, w1, w2, w3, w4, w5, rfl⟩ : ∃ w0 w1 w2 w3 w4 w5 : Value, args = #[w0, w1, w2, w3, w4, w5] := by
    have hs : args.size = 6 := by simpa [Cond.value, given_1] using gv1
    obtain ⟨L⟩ := args
    match L, hs with
    | [w0, w1, w2, w3, w4, w5], _ => exact ⟨w0, w1, w2, w3, w4, w5, rfl⟩
  have hw := fun d (hd : d ∈ tables_1) => atoms_spec (ws := Jvm.Cond.code x code maxLocals ret :: tables_1) hat d (List.mem_cons_of_mem _ hd)
  have hfit : Fit s := fun {y c} hc i hi => by
    obtain ⟨ha, rfl⟩ := Array.getElem?_eq_some_iff.mp hc
    have q := List.all_eq_true.mp ((Array.all_eq_true_iff_forall_mem.mp hF) _ (Array.getElem_mem ha)) i (List.mem_range.mpr hi)
    simpa [Array.getElem?_eq_getElem hi] using q
  obtain ⟨hsets, hown0⟩ := atoms_of _ (rest_1_c_eq ▸ (show rest_1_c.before _ s = true from hrest))
  obtain ⟨i0, ei0⟩ := is_v gv3
  obtain rfl : w0 = (.int i0) := Option.some.inj ei0
  obtain ⟨i1, ei1⟩ := is_v gv5
  obtain rfl : w1 = (.int i1) := Option.some.inj ei1
  obtain ⟨i2, ei2⟩ := isL_v gv7
  obtain rfl : w2 = (.long i2) := Option.some.inj ei2
  obtain ⟨i3, ei3⟩ := isL_v gv9
  obtain rfl : w3 = (.long i3) := Option.some.inj ei3
  obtain ⟨i4, ei4⟩ := isL_v gv11
  obtain rfl : w4 = (.long i4) := Option.some.inj ei4
  obtain ⟨i5, ei5⟩ := isL_v gv12
  obtain rfl : w5 = (.long i5) := Option.some.inj ei5
  have n5 := not_v (Cond.before_iff.mp (hsets _ (List.mem_of_getElem? (i := 2) rfl)))
  obtain ⟨i11, e10⟩ := is_v (Cond.before_iff.mp (hsets _ (List.mem_of_getElem? (i := 1) rfl)))
  have S12 : Sta s s.heap "java/lang/String" "COMPACT_STRINGS" "Z" (.int i11) := Sta.start e10 (Or.inl (hsets _ (List.mem_of_getElem? (i := 0) rfl)))
  have c17 : ¬ (i11 = (0 : Int32)) := gotF (Cond.eq_ints e10 (Term.int_eval (0))) n5
  have hEL : EW s _ own_EL := (EW.cons (own_k hw 19 rfl) (by decide) EW.nil)
  have hCH : CHv s own_EL s.vm s.heap := CHv.start hEL (fun p hp => hcalls.1 p ((by decide +kernel : ∀ p ∈ own_EL, p ∈ consts_1) p hp)) (hsets _ (List.mem_of_getElem? (i := 2) rfl)) (own_k hw 20 rfl) (own_k hw 6 rfl)
  obtain ⟨n, o, h1, h2, h3, _, L, rfl, ⟨N, rfl⟩, -, hq⟩ := rm0 l s _ hw tables_1 i0 i1 i2 i3 i4 i5 i11 s.heap s.heap.size (Nat.le_refl _) S12 c17 (Old.start s) p e ha hc hk s m _ below hf ((Spec.applies_iff_loose hf).mp happ).1 ⟨rfl, State.Warmed39.refl s, rfl, hCH, all0⟩ trivial
  refine ⟨n, _, h1, h2, h3, hpost _ _ _ _ _ _ ⟨Cond.after_iff.mpr rfl, Cond.after_iff.mpr (eq_i res_at (Term.int_eval (1)) rfl), trivial⟩ ⟨hq.1, hq.2.1, hq.2.2.1, (hq.2.2.2.sift fun y hy => Or.inr (N y hy)).mono (by decide) (by decide)⟩⟩
theorem main_1_1 : Claimed_1_1 := comes_1 fun _ _ _ _ _ _ h hF => ⟨h.1, hF⟩
theorem main_1_2 : Claimed_1_2 := comes_1 fun _ _ _ _ _ _ h hF => ⟨h.2.1, hF⟩
end Jvm.Pilot.@@N@@
namespace Jvm.Pilot.@@N@@
open Jvm Jvm.ClassFile Sem Op Lib Jvm.Free Jvm.Stand Jvm.Pilot.@@N@@.Jvm.D
/-! MADE BY PROGRAM (witnessworld.py) out of the Statement's table words and the real class files: 21 classes; the members and pool entries that the words name. The judged class is class 1, her method 2. -/
namespace start1
open Jvm.ClassFile
def u (s : String) : CpInfo := .utf8 (stringToUtf16 s)
/-- a pool by its gaps: so many unusable entries, then the entry; so many at the end -/
def gap : Nat → List CpInfo → List CpInfo
  | 0, r => r
  | n + 1, r => .unusable :: gap n r
def poolList (es : List (Nat × CpInfo)) (last : Nat) : List CpInfo := es.foldr (fun e r => gap e.1 (e.2 :: r)) (gap last [])
def pool (es : List (Nat × CpInfo)) (last : Nat) : Array CpInfo := ⟨poolList es last⟩
def fileOf (pool : Array CpInfo) (this : Nat) (attrs : Array Attribute := #[]) (ms : Array MethodInfo := #[]) (fl : Nat := 33) (sup : Nat := 0) (ifs : Array Nat := #[]) (fds : Array FieldInfo := #[]) : ClassFile where
  minorVersion := 0
  majorVersion := 65
  constantPool := pool
  accessFlags := fl
  thisClass := this
  superClass := sup
  interfaces := ifs
  fields := fds
  methods := ms
  attributes := attrs
def plain (name : String) (sup : Option ClassId) : Class where
  name := name
  kind := .ordinary
  loader := none
  accessFlags := 33
  super := sup
  interfaces := #[]
  cf := none
  fields := #[]
  methods := #[]
  instanceTypes := #[]
  staticTypes := #[]
  resolved := #[]
  callSites := []
  init := .initialized
  statics := none
  mirror := none

def pool0 : Array CpInfo := pool [(5, u "<init>"), (0, u "()V"), (1, .class_ 10), (1, u "java/lang/Object")] 113

def k0c0 : Code := { maxStack := 0, maxLocals := 1, code := object_method_1_code, exceptionTable := #[], attributes := #[] }
def k0m0 : Method := { name := "<init>", desc := "()V", sig := { parameters := [], returnType := none }, accessFlags := 1, code := some k0c0 }
/-- java/lang/Object -/
def k0 : Class := { plain "java/lang/Object" none with
  accessFlags := 33
  interfaces := #[]
  cf := some (fileOf pool0 8 #[] #[{ accessFlags := 1, nameIndex := 5, descriptorIndex := 6, attributes := #[] }] 33 0 #[] #[])
  fields := #[]
  methods := #[k0m0]
  instanceTypes := #[]
  staticTypes := #[]
  resolved := Array.replicate 124 none
  statics := none }

def pool1 : Array CpInfo := pool [(2, .class_ 4), (1, u "java/lang/Object"), (0, u "<init>"), (0, u "()V"), (0, .class_ 8), (0, u "java/lang/String"), (0, .methodref 7 10), (0, .nameAndType 5 11), (0, u "([C)V"), (2, .long 9223372036854775807), (1, .methodref 17 18), (0, .class_ 19), (0, .nameAndType 20 21), (0, u "com/example/multilingual_query_search/multilingualquerysearch/translation/DictdIndexEntryEqualsPinLaw"), (0, u "str"), (0, u "(ICC)Ljava/lang/String;"), (0, .class_ 23), (0, u "com/example/multilingual_query_search/multilingualquerysearch/translation/DictdIndexEntry"), (0, .methodref 22 25), (0, .nameAndType 5 26), (0, u "(Ljava/lang/String;JJ)V"), (0, .methodref 22 28), (0, .nameAndType 29 30), (0, u "equals"), (0, u "(Ljava/lang/Object;)Z"), (3, u "law"), (0, u "(IIJJJJ)Z")] 2

def k1m0 : Method := { name := "<init>", desc := "()V", sig := { parameters := [], returnType := none }, accessFlags := 1, code := none }
def k1c1 : Code := { maxStack := 6, maxLocals := 3, code := method_2_code, exceptionTable := #[], attributes := #[] }
def k1m1 : Method := { name := "str", desc := "(ICC)Ljava/lang/String;", sig := { parameters := [.int, .char, .char], returnType := some (.object "java/lang/String") }, accessFlags := 10, code := some k1c1 }
def k1c2 : Code := { maxStack := 7, maxLocals := 31, code := code, exceptionTable := #[], attributes := #[] }
def k1m2 : Method := { name := "law", desc := "(IIJJJJ)Z", sig := { parameters := [.int, .int, .long, .long, .long, .long], returnType := some .boolean }, accessFlags := 9, code := some k1c2 }
/-- com/example/multilingual_query_search/multilingualquerysearch/translation/DictdIndexEntryEqualsPinLaw -/
def k1 : Class := { plain "com/example/multilingual_query_search/multilingualquerysearch/translation/DictdIndexEntryEqualsPinLaw" (some 0) with
  accessFlags := 49
  interfaces := #[]
  cf := some (fileOf pool1 17 #[] #[{ accessFlags := 1, nameIndex := 5, descriptorIndex := 6, attributes := #[] }, { accessFlags := 10, nameIndex := 20, descriptorIndex := 21, attributes := #[] }, { accessFlags := 9, nameIndex := 34, descriptorIndex := 35, attributes := #[] }] 49 2 #[] #[])
  fields := #[]
  methods := #[k1m0, k1m1, k1m2]
  instanceTypes := #[]
  staticTypes := #[]
  resolved := Array.replicate 38 none
  statics := none }

def pool2 : Array CpInfo := pool [(1, .class_ 2), (0, u "java/io/Serializable"), (0, .class_ 4), (0, u "java/lang/Object")] 2

/-- java/io/Serializable -/
def k2 : Class := { plain "java/io/Serializable" (some 0) with
  accessFlags := 1537
  interfaces := #[]
  cf := some (fileOf pool2 1 #[] #[] 1537 3 #[] #[])
  fields := #[]
  methods := #[]
  instanceTypes := #[]
  staticTypes := #[]
  resolved := Array.replicate 7 none
  statics := none }

def pool3 : Array CpInfo := pool [(1, .class_ 2), (0, u "java/lang/Comparable"), (0, .class_ 4), (0, u "java/lang/Object")] 7

/-- java/lang/Comparable -/
def k3 : Class := { plain "java/lang/Comparable" (some 0) with
  accessFlags := 1537
  interfaces := #[]
  cf := some (fileOf pool3 1 #[] #[] 1537 3 #[] #[])
  fields := #[]
  methods := #[]
  instanceTypes := #[]
  staticTypes := #[]
  resolved := Array.replicate 12 none
  statics := none }

def pool4 : Array CpInfo := pool [(2, .class_ 4), (1, u "java/lang/CharSequence"), (42, .class_ 48), (0, u "java/lang/CharSequence$1CodePointIterator"), (10, .class_ 60), (0, u "java/lang/CharSequence$1CharIterator"), (5, .class_ 67), (0, u "java/lang/Object")] 63

/-- java/lang/CharSequence -/
def k4 : Class := { plain "java/lang/CharSequence" (some 0) with
  accessFlags := 1537
  interfaces := #[]
  cf := some (fileOf pool4 2 #[.nestMembers #[47, 59]] #[] 1537 66 #[] #[])
  fields := #[]
  methods := #[]
  instanceTypes := #[]
  staticTypes := #[]
  resolved := Array.replicate 131 none
  statics := none }

def pool5 : Array CpInfo := pool [(1, .class_ 2), (0, u "java/lang/constant/Constable"), (0, .class_ 4), (0, u "java/lang/Object")] 6

/-- java/lang/constant/Constable -/
def k5 : Class := { plain "java/lang/constant/Constable" (some 0) with
  accessFlags := 1537
  interfaces := #[]
  cf := some (fileOf pool5 1 #[] #[] 1537 3 #[] #[])
  fields := #[]
  methods := #[]
  instanceTypes := #[]
  staticTypes := #[]
  resolved := Array.replicate 11 none
  statics := none }

def pool6 : Array CpInfo := pool [(1, .class_ 2), (0, u "java/lang/constant/ConstantDesc"), (0, .class_ 4), (0, u "java/lang/Object")] 32

/-- java/lang/constant/ConstantDesc -/
def k6 : Class := { plain "java/lang/constant/ConstantDesc" (some 0) with
  accessFlags := 1537
  interfaces := #[]
  cf := some (fileOf pool6 1 #[] #[] 1537 3 #[] #[])
  fields := #[]
  methods := #[]
  instanceTypes := #[]
  staticTypes := #[]
  resolved := Array.replicate 37 none
  statics := none }

def pool7 : Array CpInfo := pool [(1, .methodref 2 3), (0, .class_ 4), (0, .nameAndType 5 6), (0, u "java/lang/Object"), (0, u "<init>"), (0, u "()V"), (0, .string 8), (0, u ""), (0, .fieldref 10 11), (0, .class_ 12), (0, .nameAndType 13 14), (0, u "java/lang/String"), (0, u "value"), (0, u "[B"), (0, .fieldref 10 16), (0, .nameAndType 17 18), (0, u "coder"), (0, u "B"), (2, u "hash"), (0, u "I"), (2, u "hashIsZero"), (0, u "Z"), (0, .methodref 10 28), (0, .nameAndType 5 29), (0, u "([CIILjava/lang/Void;)V"), (8, .fieldref 10 39), (0, .nameAndType 40 26), (0, u "COMPACT_STRINGS"), (1, .class_ 44), (1, u "java/lang/StringUTF16"), (0, u "compress"), (1, .methodref 42 48), (0, .nameAndType 49 50), (0, u "coderFromArrayLen"), (0, u "([BI)B"), (56, .class_ 109), (1, u "java/lang/StringLatin1"), (67, .methodref 42 178), (0, .nameAndType 45 179), (0, u "([CII)[B"), (361, .methodref 107 542), (0, .nameAndType 543 544), (0, u "equals"), (0, u "([B[B)Z"), (28, u "(Ljava/lang/Object;)Z"), (1, .class_ 576), (0, u "java/lang/CharSequence"), (22, u "CASE_INSENSITIVE_ORDER"), (0, u "Ljava/util/Comparator;"), (409, u "([C)V"), (90, u "serialPersistentFields"), (0, u "[Ljava/io/ObjectStreamField;"), (0, .class_ 1104), (0, u "java/lang/String$CaseInsensitiveComparator"), (1, .class_ 1107), (0, u "java/io/Serializable"), (0, .class_ 1109), (0, u "java/lang/Comparable"), (0, .class_ 1111), (0, u "java/lang/constant/Constable"), (0, .class_ 1113), (0, u "java/lang/constant/ConstantDesc"), (2, u "serialVersionUID"), (0, u "J"), (3, u "REPL"), (0, u "C"), (2, u "LATIN1"), (1, u "UTF16")] 323

def k7m0 : Method := { name := "<init>", desc := "()V", sig := { parameters := [], returnType := none }, accessFlags := 1, code := none }
def k7c1 : Code := { maxStack := 5, maxLocals := 2, code := jdk_42_method_3_code, exceptionTable := #[], attributes := #[] }
def k7m1 : Method := { name := "<init>", desc := "([C)V", sig := { parameters := [(.array .char)], returnType := none }, accessFlags := 1, code := some k7c1 }
def k7c2 : Code := { maxStack := 2, maxLocals := 3, code := jdk_42_method_66_code, exceptionTable := #[], attributes := #[] }
def k7m2 : Method := { name := "equals", desc := "(Ljava/lang/Object;)Z", sig := { parameters := [(.object "java/lang/Object")], returnType := some .boolean }, accessFlags := 1, code := some k7c2 }
def k7c3 : Code := { maxStack := 4, maxLocals := 6, code := jdk_42_method_149_code, exceptionTable := #[], attributes := #[] }
def k7m3 : Method := { name := "<init>", desc := "([CIILjava/lang/Void;)V", sig := { parameters := [(.array .char), .int, .int, (.object "java/lang/Void")], returnType := none }, accessFlags := 2, code := some k7c3 }
/-- java/lang/String -/
def k7 : Class := { plain "java/lang/String" (some 0) with
  accessFlags := 49
  interfaces := #[2, 3, 4, 5, 6]
  cf := some (fileOf pool7 10 #[.nestMembers #[1103]] #[{ accessFlags := 1, nameIndex := 5, descriptorIndex := 6, attributes := #[] }, { accessFlags := 1, nameIndex := 5, descriptorIndex := 1010, attributes := #[] }, { accessFlags := 1, nameIndex := 543, descriptorIndex := 573, attributes := #[] }, { accessFlags := 2, nameIndex := 5, descriptorIndex := 29, attributes := #[] }] 49 2 #[1106, 1108, 575, 1110, 1112] #[{ accessFlags := 18, nameIndex := 13, descriptorIndex := 14, attributes := #[] }, { accessFlags := 18, nameIndex := 17, descriptorIndex := 18, attributes := #[] }, { accessFlags := 2, nameIndex := 21, descriptorIndex := 22, attributes := #[] }, { accessFlags := 2, nameIndex := 25, descriptorIndex := 26, attributes := #[] }, { accessFlags := 26, nameIndex := 1116, descriptorIndex := 1117, attributes := #[] }, { accessFlags := 24, nameIndex := 40, descriptorIndex := 26, attributes := #[] }, { accessFlags := 26, nameIndex := 1101, descriptorIndex := 1102, attributes := #[] }, { accessFlags := 26, nameIndex := 1121, descriptorIndex := 1122, attributes := #[] }, { accessFlags := 25, nameIndex := 599, descriptorIndex := 600, attributes := #[] }, { accessFlags := 24, nameIndex := 1125, descriptorIndex := 18, attributes := #[] }, { accessFlags := 24, nameIndex := 1127, descriptorIndex := 18, attributes := #[] }])
  fields := #[{ name := "value", type := (.array .byte), accessFlags := 18, slot := 0, constantValue := 0 }, { name := "coder", type := .byte, accessFlags := 18, slot := 1, constantValue := 0 }, { name := "hash", type := .int, accessFlags := 2, slot := 2, constantValue := 0 }, { name := "hashIsZero", type := .boolean, accessFlags := 2, slot := 3, constantValue := 0 }, { name := "serialVersionUID", type := .long, accessFlags := 26, slot := 0, constantValue := 0 }, { name := "COMPACT_STRINGS", type := .boolean, accessFlags := 24, slot := 1, constantValue := 0 }, { name := "serialPersistentFields", type := (.array (.object "java/io/ObjectStreamField")), accessFlags := 26, slot := 2, constantValue := 0 }, { name := "REPL", type := .char, accessFlags := 26, slot := 3, constantValue := 0 }, { name := "CASE_INSENSITIVE_ORDER", type := (.object "java/util/Comparator"), accessFlags := 25, slot := 4, constantValue := 0 }, { name := "LATIN1", type := .byte, accessFlags := 24, slot := 5, constantValue := 0 }, { name := "UTF16", type := .byte, accessFlags := 24, slot := 6, constantValue := 0 }]
  methods := #[k7m0, k7m1, k7m2, k7m3]
  instanceTypes := #[(.array .byte), .byte, .int, .boolean]
  staticTypes := #[.long, .boolean, (.array (.object "java/io/ObjectStreamField")), .char, (.object "java/util/Comparator"), .byte, .byte]
  resolved := Array.replicate 1451 none
  statics := some 0 }

def pool8 : Array CpInfo := pool [(1, .methodref 2 3), (0, .class_ 4), (0, .nameAndType 5 6), (0, u "java/lang/Object"), (0, u "<init>"), (0, u "()V"), (0, .string 8), (0, u "headword"), (0, .methodref 10 11), (0, .class_ 12), (0, .nameAndType 13 14), (0, u "java/util/Objects"), (0, u "requireNonNull"), (0, u "(Ljava/lang/Object;Ljava/lang/String;)Ljava/lang/Object;"), (9, .fieldref 25 26), (0, .class_ 27), (0, .nameAndType 8 28), (0, u "com/example/multilingual_query_search/multilingualquerysearch/translation/DictdIndexEntry"), (0, u "Ljava/lang/String;"), (0, .fieldref 25 30), (0, .nameAndType 31 32), (0, u "offset"), (0, u "J"), (0, .fieldref 25 34), (0, .nameAndType 35 32), (0, u "length"), (3, .class_ 41), (1, u "java/lang/String"), (13, u "(Ljava/lang/String;JJ)V"), (37, .methodref 39 94), (0, .nameAndType 95 96), (0, u "equals"), (0, u "(Ljava/lang/Object;)Z")] 54

def k8c0 : Code := { maxStack := 6, maxLocals := 6, code := prog_31_method_1_code, exceptionTable := #[], attributes := #[] }
def k8m0 : Method := { name := "<init>", desc := "(Ljava/lang/String;JJ)V", sig := { parameters := [(.object "java/lang/String"), .long, .long], returnType := none }, accessFlags := 1, code := some k8c0 }
def k8c1 : Code := { maxStack := 4, maxLocals := 3, code := prog_31_method_8_code, exceptionTable := #[], attributes := #[] }
def k8m1 : Method := { name := "equals", desc := "(Ljava/lang/Object;)Z", sig := { parameters := [(.object "java/lang/Object")], returnType := some .boolean }, accessFlags := 1, code := some k8c1 }
/-- com/example/multilingual_query_search/multilingualquerysearch/translation/DictdIndexEntry -/
def k8 : Class := { plain "com/example/multilingual_query_search/multilingualquerysearch/translation/DictdIndexEntry" (some 0) with
  accessFlags := 49
  interfaces := #[]
  cf := some (fileOf pool8 25 #[] #[{ accessFlags := 1, nameIndex := 5, descriptorIndex := 55, attributes := #[] }, { accessFlags := 1, nameIndex := 95, descriptorIndex := 96, attributes := #[] }] 49 2 #[] #[{ accessFlags := 18, nameIndex := 8, descriptorIndex := 28, attributes := #[] }, { accessFlags := 18, nameIndex := 31, descriptorIndex := 32, attributes := #[] }, { accessFlags := 18, nameIndex := 35, descriptorIndex := 32, attributes := #[] }])
  fields := #[{ name := "headword", type := (.object "java/lang/String"), accessFlags := 18, slot := 0, constantValue := 0 }, { name := "offset", type := .long, accessFlags := 18, slot := 1, constantValue := 0 }, { name := "length", type := .long, accessFlags := 18, slot := 2, constantValue := 0 }]
  methods := #[k8m0, k8m1]
  instanceTypes := #[(.object "java/lang/String"), .long, .long]
  staticTypes := #[]
  resolved := Array.replicate 151 none
  statics := none }

def pool9 : Array CpInfo := pool [(2, .class_ 4), (1, u "java/lang/Object"), (0, u "<init>"), (0, u "()V"), (35, .class_ 44), (1, u "java/util/Objects"), (0, u "requireNonNull"), (48, u "(Ljava/lang/Object;Ljava/lang/String;)Ljava/lang/Object;")] 89

def k9m0 : Method := { name := "<init>", desc := "()V", sig := { parameters := [], returnType := none }, accessFlags := 2, code := none }
def k9c1 : Code := { maxStack := 3, maxLocals := 2, code := jdk_31_method_11_code, exceptionTable := #[], attributes := #[] }
def k9m1 : Method := { name := "requireNonNull", desc := "(Ljava/lang/Object;Ljava/lang/String;)Ljava/lang/Object;", sig := { parameters := [(.object "java/lang/Object"), (.object "java/lang/String")], returnType := some (.object "java/lang/Object") }, accessFlags := 9, code := some k9c1 }
/-- java/util/Objects -/
def k9 : Class := { plain "java/util/Objects" (some 0) with
  accessFlags := 49
  interfaces := #[]
  cf := some (fileOf pool9 42 #[] #[{ accessFlags := 2, nameIndex := 5, descriptorIndex := 6, attributes := #[] }, { accessFlags := 9, nameIndex := 45, descriptorIndex := 94, attributes := #[] }] 49 2 #[] #[])
  fields := #[]
  methods := #[k9m0, k9m1]
  instanceTypes := #[]
  staticTypes := #[]
  resolved := Array.replicate 184 none
  statics := none }

def pool10 : Array CpInfo := pool [(4, .class_ 6), (1, u "java/lang/Object"), (0, u "<init>"), (0, u "()V"), (5, .class_ 16), (1, u "java/lang/StringLatin1"), (104, u "$assertionsDisabled"), (0, u "Z"), (98, .class_ 223), (1, u "java/lang/StringLatin1$LinesSpliterator"), (57, u "equals"), (0, u "([B[B)Z"), (107, .class_ 391), (0, u "java/lang/StringLatin1$CharsSpliterator")] 3

def k10m0 : Method := { name := "<init>", desc := "()V", sig := { parameters := [], returnType := none }, accessFlags := 0, code := none }
def k10c1 : Code := { maxStack := 3, maxLocals := 3, code := jdk_43_method_13_code, exceptionTable := #[], attributes := #[] }
def k10m1 : Method := { name := "equals", desc := "([B[B)Z", sig := { parameters := [(.array .byte), (.array .byte)], returnType := some .boolean }, accessFlags := 9, code := some k10c1 }
/-- java/lang/StringLatin1 -/
def k10 : Class := { plain "java/lang/StringLatin1" (some 0) with
  accessFlags := 48
  interfaces := #[]
  cf := some (fileOf pool10 14 #[.nestMembers #[390, 221]] #[{ accessFlags := 0, nameIndex := 7, descriptorIndex := 8, attributes := #[] }, { accessFlags := 9, nameIndex := 281, descriptorIndex := 282, attributes := #[] }] 48 4 #[] #[{ accessFlags := 4120, nameIndex := 121, descriptorIndex := 122, attributes := #[] }])
  fields := #[{ name := "$assertionsDisabled", type := .boolean, accessFlags := 4120, slot := 0, constantValue := 0 }]
  methods := #[k10m0, k10m1]
  instanceTypes := #[]
  staticTypes := #[.boolean]
  resolved := Array.replicate 395 none
  statics := none }

def pool11 : Array CpInfo := pool [(6, .class_ 8), (1, u "java/lang/Object"), (0, u "<init>"), (0, u "()V"), (1, .class_ 14), (1, u "java/lang/StringUTF16"), (31, u "$assertionsDisabled"), (0, u "Z"), (13, u "HI_BYTE_SHIFT"), (0, u "I"), (2, u "LO_BYTE_SHIFT"), (49, .methodref 12 116), (0, .nameAndType 117 118), (0, u "compress"), (0, u "([CI[BII)I"), (3, u "([CII)[B"), (138, u "coderFromArrayLen"), (0, u "([BI)B"), (106, .class_ 371), (1, u "java/lang/StringUTF16$LinesSpliterator"), (58, u "MAX_LENGTH"), (196, .class_ 628), (0, u "java/lang/StringUTF16$CodePointsSpliterator"), (0, .class_ 630), (0, u "java/lang/StringUTF16$CharsSpliterator")] 4

def k11m0 : Method := { name := "<init>", desc := "()V", sig := { parameters := [], returnType := none }, accessFlags := 0, code := none }
def k11c1 : Code := { maxStack := 2, maxLocals := 2, code := jdk_52_method_15_code, exceptionTable := #[], attributes := #[] }
def k11m1 : Method := { name := "coderFromArrayLen", desc := "([BI)B", sig := { parameters := [(.array .byte), .int], returnType := some .byte }, accessFlags := 8, code := some k11c1 }
def k11c2 : Code := { maxStack := 5, maxLocals := 6, code := jdk_52_method_16_code, exceptionTable := #[], attributes := #[] }
def k11m2 : Method := { name := "compress", desc := "([CII)[B", sig := { parameters := [(.array .char), .int, .int], returnType := some (.array .byte) }, accessFlags := 9, code := some k11c2 }
def k11c3 : Code := { maxStack := 3, maxLocals := 7, code := jdk_52_method_21_code, exceptionTable := #[], attributes := #[] }
def k11m3 : Method := { name := "compress", desc := "([CI[BII)I", sig := { parameters := [(.array .char), .int, (.array .byte), .int, .int], returnType := some .int }, accessFlags := 9, code := some k11c3 }
/-- java/lang/StringUTF16 -/
def k11 : Class := { plain "java/lang/StringUTF16" (some 0) with
  accessFlags := 48
  interfaces := #[]
  cf := some (fileOf pool11 12 #[.nestMembers #[627, 629, 369]] #[{ accessFlags := 0, nameIndex := 9, descriptorIndex := 10, attributes := #[] }, { accessFlags := 8, nameIndex := 261, descriptorIndex := 262, attributes := #[] }, { accessFlags := 9, nameIndex := 117, descriptorIndex := 122, attributes := #[] }, { accessFlags := 9, nameIndex := 117, descriptorIndex := 118, attributes := #[] }] 48 6 #[] #[{ accessFlags := 26, nameIndex := 61, descriptorIndex := 62, attributes := #[] }, { accessFlags := 26, nameIndex := 65, descriptorIndex := 62, attributes := #[] }, { accessFlags := 24, nameIndex := 430, descriptorIndex := 62, attributes := #[] }, { accessFlags := 4120, nameIndex := 46, descriptorIndex := 47, attributes := #[] }])
  fields := #[{ name := "HI_BYTE_SHIFT", type := .int, accessFlags := 26, slot := 0, constantValue := 0 }, { name := "LO_BYTE_SHIFT", type := .int, accessFlags := 26, slot := 1, constantValue := 0 }, { name := "MAX_LENGTH", type := .int, accessFlags := 24, slot := 2, constantValue := 0 }, { name := "$assertionsDisabled", type := .boolean, accessFlags := 4120, slot := 3, constantValue := 0 }]
  methods := #[k11m0, k11m1, k11m2, k11m3]
  instanceTypes := #[]
  staticTypes := #[.int, .int, .int, .boolean]
  resolved := Array.replicate 635 none
  statics := none }

def pool12 : Array CpInfo := pool [(2, .class_ 4), (1, u "java/lang/Object"), (0, u "<init>"), (0, u "()V"), (17, .class_ 26), (1, u "jdk/internal/util/Preconditions"), (28, .class_ 56), (0, u "jdk/internal/util/Preconditions$4"), (57, .class_ 115), (0, u "jdk/internal/util/Preconditions$1"), (7, u "SIOOBE_FORMATTER"), (0, u "Ljava/util/function/BiFunction;"), (0, .class_ 126), (0, u "jdk/internal/util/Preconditions$2"), (3, u "AIOOBE_FORMATTER"), (0, .class_ 132), (0, u "jdk/internal/util/Preconditions$3"), (3, u "IOOBE_FORMATTER")] 57

def k12m0 : Method := { name := "<init>", desc := "()V", sig := { parameters := [], returnType := none }, accessFlags := 1, code := none }
/-- jdk/internal/util/Preconditions -/
def k12 : Class := { plain "jdk/internal/util/Preconditions" (some 0) with
  accessFlags := 33
  interfaces := #[]
  cf := some (fileOf pool12 24 #[.nestMembers #[55, 131, 125, 114]] #[{ accessFlags := 1, nameIndex := 5, descriptorIndex := 6, attributes := #[] }] 33 2 #[] #[{ accessFlags := 25, nameIndex := 123, descriptorIndex := 124, attributes := #[] }, { accessFlags := 25, nameIndex := 130, descriptorIndex := 124, attributes := #[] }, { accessFlags := 25, nameIndex := 136, descriptorIndex := 124, attributes := #[] }])
  fields := #[{ name := "SIOOBE_FORMATTER", type := (.object "java/util/function/BiFunction"), accessFlags := 25, slot := 0, constantValue := 0 }, { name := "AIOOBE_FORMATTER", type := (.object "java/util/function/BiFunction"), accessFlags := 25, slot := 1, constantValue := 0 }, { name := "IOOBE_FORMATTER", type := (.object "java/util/function/BiFunction"), accessFlags := 25, slot := 2, constantValue := 0 }]
  methods := #[k12m0]
  instanceTypes := #[]
  staticTypes := #[(.object "java/util/function/BiFunction"), (.object "java/util/function/BiFunction"), (.object "java/util/function/BiFunction")]
  resolved := Array.replicate 194 none
  statics := some 1 }

def pool13 : Array CpInfo := pool [(9, u "<init>"), (6, .class_ 18), (1, u "java/lang/Object"), (0, u "()V"), (1, .class_ 23), (1, u "jdk/internal/util/ArraysSupport"), (0, u "LOG2_ARRAY_LONG_INDEX_SCALE"), (0, u "I"), (2, u "U"), (0, u "Ljdk/internal/misc/Unsafe;"), (8, u "BIG_ENDIAN"), (0, u "Z"), (8, u "LOG2_BYTE_BIT_SIZE"), (4, u "LOG2_ARRAY_INT_INDEX_SCALE"), (54, u "JLA"), (0, u "Ljdk/internal/access/JavaLangAccess;"), (11, u "LOG2_ARRAY_BOOLEAN_INDEX_SCALE"), (9, u "LOG2_ARRAY_BYTE_INDEX_SCALE"), (5, u "LOG2_ARRAY_CHAR_INDEX_SCALE"), (5, u "LOG2_ARRAY_SHORT_INDEX_SCALE"), (18, u "LOG2_ARRAY_FLOAT_INDEX_SCALE"), (24, u "LOG2_ARRAY_DOUBLE_INDEX_SCALE"), (89, u "T_BOOLEAN"), (2, u "T_CHAR"), (1, u "T_FLOAT"), (1, u "T_DOUBLE"), (1, u "T_BYTE"), (1, u "T_SHORT"), (1, u "T_INT"), (1, u "T_LONG"), (1, u "SOFT_MAX_ARRAY_LENGTH")] 83

def k13m0 : Method := { name := "<init>", desc := "()V", sig := { parameters := [], returnType := none }, accessFlags := 2, code := none }
/-- jdk/internal/util/ArraysSupport -/
def k13 : Class := { plain "jdk/internal/util/ArraysSupport" (some 0) with
  accessFlags := 33
  interfaces := #[]
  cf := some (fileOf pool13 21 #[] #[{ accessFlags := 2, nameIndex := 9, descriptorIndex := 19, attributes := #[] }] 33 16 #[] #[{ accessFlags := 24, nameIndex := 28, descriptorIndex := 29, attributes := #[] }, { accessFlags := 26, nameIndex := 38, descriptorIndex := 39, attributes := #[] }, { accessFlags := 25, nameIndex := 121, descriptorIndex := 25, attributes := #[] }, { accessFlags := 25, nameIndex := 131, descriptorIndex := 25, attributes := #[] }, { accessFlags := 25, nameIndex := 137, descriptorIndex := 25, attributes := #[] }, { accessFlags := 25, nameIndex := 143, descriptorIndex := 25, attributes := #[] }, { accessFlags := 25, nameIndex := 53, descriptorIndex := 25, attributes := #[] }, { accessFlags := 25, nameIndex := 24, descriptorIndex := 25, attributes := #[] }, { accessFlags := 25, nameIndex := 162, descriptorIndex := 25, attributes := #[] }, { accessFlags := 25, nameIndex := 187, descriptorIndex := 25, attributes := #[] }, { accessFlags := 26, nameIndex := 48, descriptorIndex := 25, attributes := #[] }, { accessFlags := 25, nameIndex := 277, descriptorIndex := 25, attributes := #[] }, { accessFlags := 25, nameIndex := 280, descriptorIndex := 25, attributes := #[] }, { accessFlags := 25, nameIndex := 282, descriptorIndex := 25, attributes := #[] }, { accessFlags := 25, nameIndex := 284, descriptorIndex := 25, attributes := #[] }, { accessFlags := 25, nameIndex := 286, descriptorIndex := 25, attributes := #[] }, { accessFlags := 25, nameIndex := 288, descriptorIndex := 25, attributes := #[] }, { accessFlags := 25, nameIndex := 290, descriptorIndex := 25, attributes := #[] }, { accessFlags := 25, nameIndex := 292, descriptorIndex := 25, attributes := #[] }, { accessFlags := 26, nameIndex := 108, descriptorIndex := 109, attributes := #[] }, { accessFlags := 25, nameIndex := 294, descriptorIndex := 25, attributes := #[] }])
  fields := #[{ name := "U", type := (.object "jdk/internal/misc/Unsafe"), accessFlags := 24, slot := 0, constantValue := 0 }, { name := "BIG_ENDIAN", type := .boolean, accessFlags := 26, slot := 1, constantValue := 0 }, { name := "LOG2_ARRAY_BOOLEAN_INDEX_SCALE", type := .int, accessFlags := 25, slot := 2, constantValue := 0 }, { name := "LOG2_ARRAY_BYTE_INDEX_SCALE", type := .int, accessFlags := 25, slot := 3, constantValue := 0 }, { name := "LOG2_ARRAY_CHAR_INDEX_SCALE", type := .int, accessFlags := 25, slot := 4, constantValue := 0 }, { name := "LOG2_ARRAY_SHORT_INDEX_SCALE", type := .int, accessFlags := 25, slot := 5, constantValue := 0 }, { name := "LOG2_ARRAY_INT_INDEX_SCALE", type := .int, accessFlags := 25, slot := 6, constantValue := 0 }, { name := "LOG2_ARRAY_LONG_INDEX_SCALE", type := .int, accessFlags := 25, slot := 7, constantValue := 0 }, { name := "LOG2_ARRAY_FLOAT_INDEX_SCALE", type := .int, accessFlags := 25, slot := 8, constantValue := 0 }, { name := "LOG2_ARRAY_DOUBLE_INDEX_SCALE", type := .int, accessFlags := 25, slot := 9, constantValue := 0 }, { name := "LOG2_BYTE_BIT_SIZE", type := .int, accessFlags := 26, slot := 10, constantValue := 0 }, { name := "T_BOOLEAN", type := .int, accessFlags := 25, slot := 11, constantValue := 0 }, { name := "T_CHAR", type := .int, accessFlags := 25, slot := 12, constantValue := 0 }, { name := "T_FLOAT", type := .int, accessFlags := 25, slot := 13, constantValue := 0 }, { name := "T_DOUBLE", type := .int, accessFlags := 25, slot := 14, constantValue := 0 }, { name := "T_BYTE", type := .int, accessFlags := 25, slot := 15, constantValue := 0 }, { name := "T_SHORT", type := .int, accessFlags := 25, slot := 16, constantValue := 0 }, { name := "T_INT", type := .int, accessFlags := 25, slot := 17, constantValue := 0 }, { name := "T_LONG", type := .int, accessFlags := 25, slot := 18, constantValue := 0 }, { name := "JLA", type := (.object "jdk/internal/access/JavaLangAccess"), accessFlags := 26, slot := 19, constantValue := 0 }, { name := "SOFT_MAX_ARRAY_LENGTH", type := .int, accessFlags := 25, slot := 20, constantValue := 0 }]
  methods := #[k13m0]
  instanceTypes := #[]
  staticTypes := #[(.object "jdk/internal/misc/Unsafe"), .boolean, .int, .int, .int, .int, .int, .int, .int, .int, .int, .int, .int, .int, .int, .int, .int, .int, .int, (.object "jdk/internal/access/JavaLangAccess"), .int]
  resolved := Array.replicate 378 none
  statics := none }

def pool14 : Array CpInfo := pool [(1, u "java/lang/Cloneable"), (0, .class_ 1), (0, u "java/lang/Object"), (0, .class_ 3)] 3

/-- java/lang/Cloneable -/
def k14 : Class := { plain "java/lang/Cloneable" (some 0) with
  accessFlags := 1537
  interfaces := #[]
  cf := some (fileOf pool14 2 #[] #[] 1537 4 #[] #[])
  fields := #[]
  methods := #[]
  instanceTypes := #[]
  staticTypes := #[]
  resolved := Array.replicate 8 none
  statics := none }

/-- the primitive byte -/
def k15 : Class := { plain "byte" none with kind := .primitive 'B', accessFlags := 0x411 }
/-- [B -/
def k16 : Class := { plain "[B" (some 0) with kind := .array 15 .byte, interfaces := #[14, 2], accessFlags := 1041 }

/-- the primitive char -/
def k17 : Class := { plain "char" none with kind := .primitive 'C', accessFlags := 0x411 }
/-- [C -/
def k18 : Class := { plain "[C" (some 0) with kind := .array 17 .char, interfaces := #[14, 2], accessFlags := 1041 }

/-- the primitive int -/
def k19 : Class := { plain "int" none with kind := .primitive 'I', accessFlags := 0x411 }
/-- [I -/
def k20 : Class := { plain "[I" (some 0) with kind := .array 19 .int, interfaces := #[14, 2], accessFlags := 1041 }

def heap : Heap := #[{ cls := 7, slots := #[.long 0, .int 1, .null, .int 0, .null, .int 0, .int 0], vm := .statics 7 },
  { cls := 12, slots := #[.null, .null, .null], vm := .statics 12 }]
def classes : Array Class := #[k0, k1, k2, k3, k4, k5, k6, k7, k8, k9, k10, k11, k12, k13, k14, k15, k16, k17, k18, k19, k20]
def interned : List (Array UInt16 × Addr) := []
def slotsUsed : Nat := 10
def theMethod : MethodId := ⟨1, 2⟩
def args0 : Array Value := #[.int 5, .int 3, .long 1, .long 2, .long 3, .long 4]
def aboutOver (below : List Frame) : State where
  vm := { classes := classes, interned := interned.toArray }
  heap := heap
  slotsUsed := slotsUsed
  threads := #[{ frames := .invoking theMethod args0 :: below }]
def below0 : List Frame := [.native { method := ⟨0, 0⟩, args := #[] }]
def about1 : State := aboutOver below0
def p0 : Program := .bare "" "" ""
def e0 : Env := launch0.env 0 0 0
theorem w_frames : about1.frames = Frame.invoking theMethod args0 :: below0 := rfl
set_option maxRecDepth 65536 in
theorem w_args : argsFit about1.vm theMethod args0 = true := by decide +kernel
set_option maxRecDepth 65536 in
theorem w_heap : heapFits about1 = true := by decide +kernel
set_option maxRecDepth 65536 in
theorem w_runnable : about1.curStatus? = some .runnable := by decide +kernel
set_option maxRecDepth 65536 in
theorem w_alone : about1.alone = true := by decide +kernel
set_option maxRecDepth 65536 in
theorem w_named : about1.methodNamed? x = some theMethod := by decide +kernel
set_option maxRecDepth 65536 in
theorem w_hears : about1.hears theMethod below0 = true := by decide +kernel
set_option maxRecDepth 65536 in
theorem w_ripe : about1.ripe theMethod args0 below0 = true := by decide +kernel
theorem w_running : about1.status = .running := rfl
set_option maxRecDepth 65536 in
theorem w_room : about1.hasRoom e0.platform room_1 = true :=
  launch0.hasRoom_least _ room_1 (by decide +kernel) (by decide +kernel) (by decide +kernel) (by decide +kernel) (by decide +kernel) (by decide +kernel)
theorem allAtoms_all (ts : List Jvm.Cond) (a : Array Jvm.Value) (st : Jvm.State) : (allAtoms ts).before a st = ts.all (fun c => c.before a st) := by
  induction ts with
  | nil => rfl
  | cons c t ih =>
    show (Jvm.Cond.and c (allAtoms t)).before a st = _
    rw [Jvm.Cond.before_and, ih, List.all_cons]
def words1 : List Jvm.Cond := Jvm.Cond.code x code maxLocals ret :: tables_1
/-- a 'code' word, met by the world's own term for the bytes: nothing is compared byte by byte -/
theorem code_word {y : MethodName} {bytes : ByteArray} {mx : Nat} {rt : Option FieldType} {a : Array Value} {s : State} {m : MethodId} {meth : Method} {c : Code} (h1 : s.methodNamed? y = some m) (h2 : s.vm.method? m = some meth) (h3 : meth.code = some c) (h4 : c.code = bytes)
    (h5 : (c.maxLocals == mx && c.exceptionTable.isEmpty && decide (c.maxStack ≤ mostOperands) && decide (meth.sig.returnType = rt) && !meth.locks && decide (parseMethodDescriptor y.desc = some meth.sig)) = true) : (Jvm.Cond.code y bytes mx rt).before a s = true := by
  simp only [Bool.and_eq_true, beq_iff_eq, Bool.not_eq_true', decide_eq_true_eq] at h5
  obtain ⟨⟨⟨⟨⟨g1, g2⟩, g3⟩, g4⟩, g5⟩, g6⟩ := h5
  simp [Cond.before, Cond.holds, Cond.value, h1, h2, h3, h4, g1, g2, g3, g4, g5, g6]
def isCode : Jvm.Cond → Bool
  | .code _ _ _ _ => true
  | _ => false
theorem all_split {L : List Jvm.Cond} {P : Jvm.Cond → Bool} (h1 : L.all (fun c => isCode c || P c) = true) (h2 : ∀ c ∈ L.filter isCode, P c = true) : L.all P = true := by
  refine List.all_eq_true.mpr fun c hc => ?_
  have h := List.all_eq_true.mp h1 c hc
  rcases Bool.eq_false_or_eq_true (isCode c) with hi | hi
  · exact h2 c (List.mem_filter.mpr ⟨hc, hi⟩)
  · simpa [hi] using h
set_option maxRecDepth 65536 in
theorem w_c0 : (Jvm.Cond.code x code maxLocals ret).before args0 about1 = true := code_word (m := ⟨1, 2⟩) (meth := k1m2) (c := k1c2) (by decide +kernel) rfl rfl rfl (by decide +kernel)
set_option maxRecDepth 65536 in
theorem w_c1 : (Jvm.Cond.code ({ cls := "com/example/multilingual_query_search/multilingualquerysearch/translation/DictdIndexEntryEqualsPinLaw", name := "str", desc := "(ICC)Ljava/lang/String;" } : Jvm.MethodName) method_2_code (3 : Nat) (Option.some (Jvm.ClassFile.FieldType.object "java/lang/String"))).before args0 about1 = true := code_word (m := ⟨1, 1⟩) (meth := k1m1) (c := k1c1) (by decide +kernel) rfl rfl rfl (by decide +kernel)
set_option maxRecDepth 65536 in
theorem w_c2 : (Jvm.Cond.code ({ cls := "java/lang/String", name := "<init>", desc := "([C)V" } : Jvm.MethodName) jdk_42_method_3_code (2 : Nat) (Option.none : Option Jvm.ClassFile.FieldType)).before args0 about1 = true := code_word (m := ⟨7, 1⟩) (meth := k7m1) (c := k7c1) (by decide +kernel) rfl rfl rfl (by decide +kernel)
set_option maxRecDepth 65536 in
theorem w_c3 : (Jvm.Cond.code ({ cls := "java/lang/String", name := "<init>", desc := "([CIILjava/lang/Void;)V" } : Jvm.MethodName) jdk_42_method_149_code (6 : Nat) (Option.none : Option Jvm.ClassFile.FieldType)).before args0 about1 = true := code_word (m := ⟨7, 3⟩) (meth := k7m3) (c := k7c3) (by decide +kernel) rfl rfl rfl (by decide +kernel)
set_option maxRecDepth 65536 in
theorem w_c4 : (Jvm.Cond.code ({ cls := "java/lang/Object", name := "<init>", desc := "()V" } : Jvm.MethodName) object_method_1_code (1 : Nat) (Option.none : Option Jvm.ClassFile.FieldType)).before args0 about1 = true := code_word (m := ⟨0, 0⟩) (meth := k0m0) (c := k0c0) (by decide +kernel) rfl rfl rfl (by decide +kernel)
set_option maxRecDepth 65536 in
theorem w_c5 : (Jvm.Cond.code ({ cls := "com/example/multilingual_query_search/multilingualquerysearch/translation/DictdIndexEntry", name := "<init>", desc := "(Ljava/lang/String;JJ)V" } : Jvm.MethodName) prog_31_method_1_code (6 : Nat) (Option.none : Option Jvm.ClassFile.FieldType)).before args0 about1 = true := code_word (m := ⟨8, 0⟩) (meth := k8m0) (c := k8c0) (by decide +kernel) rfl rfl rfl (by decide +kernel)
set_option maxRecDepth 65536 in
theorem w_c6 : (Jvm.Cond.code ({ cls := "java/util/Objects", name := "requireNonNull", desc := "(Ljava/lang/Object;Ljava/lang/String;)Ljava/lang/Object;" } : Jvm.MethodName) jdk_31_method_11_code (2 : Nat) (Option.some (Jvm.ClassFile.FieldType.object "java/lang/Object"))).before args0 about1 = true := code_word (m := ⟨9, 1⟩) (meth := k9m1) (c := k9c1) (by decide +kernel) rfl rfl rfl (by decide +kernel)
set_option maxRecDepth 65536 in
theorem w_c7 : (Jvm.Cond.code ({ cls := "com/example/multilingual_query_search/multilingualquerysearch/translation/DictdIndexEntry", name := "equals", desc := "(Ljava/lang/Object;)Z" } : Jvm.MethodName) prog_31_method_8_code (3 : Nat) (Option.some Jvm.ClassFile.FieldType.boolean)).before args0 about1 = true := code_word (m := ⟨8, 1⟩) (meth := k8m1) (c := k8c1) (by decide +kernel) rfl rfl rfl (by decide +kernel)
set_option maxRecDepth 65536 in
theorem w_c8 : (Jvm.Cond.code ({ cls := "java/lang/String", name := "equals", desc := "(Ljava/lang/Object;)Z" } : Jvm.MethodName) jdk_42_method_66_code (3 : Nat) (Option.some Jvm.ClassFile.FieldType.boolean)).before args0 about1 = true := code_word (m := ⟨7, 2⟩) (meth := k7m2) (c := k7c2) (by decide +kernel) rfl rfl rfl (by decide +kernel)
set_option maxRecDepth 65536 in
theorem w_c9 : (Jvm.Cond.code ({ cls := "java/lang/StringLatin1", name := "equals", desc := "([B[B)Z" } : Jvm.MethodName) jdk_43_method_13_code (3 : Nat) (Option.some Jvm.ClassFile.FieldType.boolean)).before args0 about1 = true := code_word (m := ⟨10, 1⟩) (meth := k10m1) (c := k10c1) (by decide +kernel) rfl rfl rfl (by decide +kernel)
set_option maxRecDepth 65536 in
theorem w_c10 : (Jvm.Cond.code ({ cls := "java/lang/StringUTF16", name := "compress", desc := "([CII)[B" } : Jvm.MethodName) jdk_52_method_16_code (6 : Nat) (Option.some (Jvm.ClassFile.FieldType.array Jvm.ClassFile.FieldType.byte))).before args0 about1 = true := code_word (m := ⟨11, 2⟩) (meth := k11m2) (c := k11c2) (by decide +kernel) rfl rfl rfl (by decide +kernel)
set_option maxRecDepth 65536 in
theorem w_c11 : (Jvm.Cond.code ({ cls := "java/lang/StringUTF16", name := "compress", desc := "([CI[BII)I" } : Jvm.MethodName) jdk_52_method_21_code (7 : Nat) (Option.some Jvm.ClassFile.FieldType.int)).before args0 about1 = true := code_word (m := ⟨11, 3⟩) (meth := k11m3) (c := k11c3) (by decide +kernel) rfl rfl rfl (by decide +kernel)
set_option maxRecDepth 65536 in
theorem w_c12 : (Jvm.Cond.code ({ cls := "java/lang/StringUTF16", name := "coderFromArrayLen", desc := "([BI)B" } : Jvm.MethodName) jdk_52_method_15_code (2 : Nat) (Option.some Jvm.ClassFile.FieldType.byte)).before args0 about1 = true := code_word (m := ⟨11, 1⟩) (meth := k11m1) (c := k11c1) (by decide +kernel) rfl rfl rfl (by decide +kernel)
def codes1 : List Jvm.Cond := [Jvm.Cond.code x code maxLocals ret, Jvm.Cond.code ({ cls := "com/example/multilingual_query_search/multilingualquerysearch/translation/DictdIndexEntryEqualsPinLaw", name := "str", desc := "(ICC)Ljava/lang/String;" } : Jvm.MethodName) method_2_code (3 : Nat) (Option.some (Jvm.ClassFile.FieldType.object "java/lang/String")), Jvm.Cond.code ({ cls := "java/lang/String", name := "<init>", desc := "([C)V" } : Jvm.MethodName) jdk_42_method_3_code (2 : Nat) (Option.none : Option Jvm.ClassFile.FieldType), Jvm.Cond.code ({ cls := "java/lang/String", name := "<init>", desc := "([CIILjava/lang/Void;)V" } : Jvm.MethodName) jdk_42_method_149_code (6 : Nat) (Option.none : Option Jvm.ClassFile.FieldType), Jvm.Cond.code ({ cls := "java/lang/Object", name := "<init>", desc := "()V" } : Jvm.MethodName) object_method_1_code (1 : Nat) (Option.none : Option Jvm.ClassFile.FieldType), Jvm.Cond.code ({ cls := "com/example/multilingual_query_search/multilingualquerysearch/translation/DictdIndexEntry", name := "<init>", desc := "(Ljava/lang/String;JJ)V" } : Jvm.MethodName) prog_31_method_1_code (6 : Nat) (Option.none : Option Jvm.ClassFile.FieldType), Jvm.Cond.code ({ cls := "java/util/Objects", name := "requireNonNull", desc := "(Ljava/lang/Object;Ljava/lang/String;)Ljava/lang/Object;" } : Jvm.MethodName) jdk_31_method_11_code (2 : Nat) (Option.some (Jvm.ClassFile.FieldType.object "java/lang/Object")), Jvm.Cond.code ({ cls := "com/example/multilingual_query_search/multilingualquerysearch/translation/DictdIndexEntry", name := "equals", desc := "(Ljava/lang/Object;)Z" } : Jvm.MethodName) prog_31_method_8_code (3 : Nat) (Option.some Jvm.ClassFile.FieldType.boolean), Jvm.Cond.code ({ cls := "java/lang/String", name := "equals", desc := "(Ljava/lang/Object;)Z" } : Jvm.MethodName) jdk_42_method_66_code (3 : Nat) (Option.some Jvm.ClassFile.FieldType.boolean), Jvm.Cond.code ({ cls := "java/lang/StringLatin1", name := "equals", desc := "([B[B)Z" } : Jvm.MethodName) jdk_43_method_13_code (3 : Nat) (Option.some Jvm.ClassFile.FieldType.boolean), Jvm.Cond.code ({ cls := "java/lang/StringUTF16", name := "compress", desc := "([CII)[B" } : Jvm.MethodName) jdk_52_method_16_code (6 : Nat) (Option.some (Jvm.ClassFile.FieldType.array Jvm.ClassFile.FieldType.byte)), Jvm.Cond.code ({ cls := "java/lang/StringUTF16", name := "compress", desc := "([CI[BII)I" } : Jvm.MethodName) jdk_52_method_21_code (7 : Nat) (Option.some Jvm.ClassFile.FieldType.int), Jvm.Cond.code ({ cls := "java/lang/StringUTF16", name := "coderFromArrayLen", desc := "([BI)B" } : Jvm.MethodName) jdk_52_method_15_code (2 : Nat) (Option.some Jvm.ClassFile.FieldType.byte)]
set_option maxRecDepth 65536 in
theorem codes_eq : words1.filter isCode = codes1 := rfl
theorem w_codes : ∀ c ∈ words1.filter isCode, c.before args0 about1 = true := by
  rw [codes_eq]
  intro c hc
  simp only [codes1, List.mem_cons, List.not_mem_nil, or_false] at hc
  rcases hc with rfl | rfl | rfl | rfl | rfl | rfl | rfl | rfl | rfl | rfl | rfl | rfl | rfl
  · exact w_c0
  · exact w_c1
  · exact w_c2
  · exact w_c3
  · exact w_c4
  · exact w_c5
  · exact w_c6
  · exact w_c7
  · exact w_c8
  · exact w_c9
  · exact w_c10
  · exact w_c11
  · exact w_c12
set_option maxRecDepth 65536 in
theorem w_t1 : (words1.take 24).all (fun c => isCode c || c.before args0 about1) = true := by decide +kernel
set_option maxRecDepth 65536 in
theorem w_t2 : ((words1.drop 24).take 24).all (fun c => isCode c || c.before args0 about1) = true := by decide +kernel
set_option maxRecDepth 65536 in
theorem w_t3 : (((words1.drop 24).drop 24).take 24).all (fun c => isCode c || c.before args0 about1) = true := by decide +kernel
set_option maxRecDepth 65536 in
theorem w_t4 : (((words1.drop 24).drop 24).drop 24).all (fun c => isCode c || c.before args0 about1) = true := by decide +kernel
theorem w_tables : (allAtoms (Jvm.Cond.code x code maxLocals ret :: tables_1)).before args0 about1 = true := by
  rw [allAtoms_all]
  show words1.all (fun c => c.before args0 about1) = true
  refine all_split ?_ w_codes
  rw [← List.take_append_drop 24 words1, List.all_append, w_t1, ← List.take_append_drop 24 (words1.drop 24), List.all_append, w_t2, ← List.take_append_drop 24 ((words1.drop 24).drop 24), List.all_append, w_t3, w_t4]
  rfl
set_option maxRecDepth 65536 in
theorem w_rest : rest_1_c.before args0 about1 = true := by decide +kernel
set_option maxRecDepth 65536 in
theorem w_case : (Jvm.Cond.and given_1 narrow_1).before args0 about1 = true := by decide +kernel
set_option maxRecDepth 65536 in
theorem w_consts : constsHeld consts_1 about1 := Jvm.Lit.constsHeldB_iff.mp (by decide +kernel)
theorem w_applies : (headSpec (Jvm.Cond.code x code maxLocals ret :: tables_1) room_1).applies x e0.platform about1 = true :=
  (Spec.applies_iff w_frames).mpr ⟨w_running, w_runnable, w_alone, w_named, w_hears, w_ripe, w_room, w_tables⟩
theorem atStart : AtStart classFile x code maxLocals ret World_1 tables_1 room_1 Calls_1 rest_1 Pre_1 launch0 p0 e0 about1 theMethod args0 below0 :=
  ⟨lists_1, trivial, launch0.admits_env _ _ _, launch0.least_env, fairChoices_fair.cas, fairChoices_fair.clock, w_frames, w_args, w_heap, w_applies, ⟨w_consts, trivial⟩, w_rest, w_case⟩
end start1
theorem witness_1 : WitnessClaimed_1 := ⟨start1.p0, start1.e0, start1.about1, start1.theMethod, start1.args0, start1.below0, start1.atStart⟩
end Jvm.Pilot.@@N@@
