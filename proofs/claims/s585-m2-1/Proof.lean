import JvmDerived
import JvmDerived.Pilot.@@N@@Statement
import JvmDerived.Pilot.@@N@@Code
set_option linter.unusedVariables false
set_option linter.unusedSimpArgs false
namespace Jvm.Pilot.@@N@@
open Jvm Jvm.ClassFile Sem Op Lib Jvm.Free Jvm.Stand Jvm.LawKit Jvm.RoadKit Bundle Jvm.Pilot.@@N@@.Jvm.D
theorem own_k {Z : State} {a0 : Array Value} (hw : ∀ d ∈ tables_1, d.before a0 Z = true) (i : Nat) {d : Jvm.Cond} (h : tables_1[i]? = some d) : d.before a0 Z = true := hw _ (List.mem_of_getElem? h)
theorem own_q_fin : Jvm.Free.Fl.Fin64 (4652007308841189376 : UInt64) := by unfold Jvm.Free.Fl.Fin64; decide
theorem own_q_nz : Jvm.Free.Fl.Nz64 (4652007308841189376 : UInt64) := by unfold Jvm.Free.Fl.Nz64; decide
theorem own_nn (x : Int32) : Jvm.Free.Fl.NoNaN64 (FP.ddiv (FP.i2d x) (4652007308841189376 : UInt64)) := Jvm.Free.Fl.ddiv_out (Jvm.Free.Fl.i2d_fin x).noNaN own_q_fin own_q_nz
theorem own_low (a : Int32) : ¬ ((500001 : Int32) - ((a &&& (2147483647 : Int32)) % (500001 : Int32)) = (0 : Int32)) := by
  have b := c_and a (2147483647 : Int32) (by decide)
  have r := (c_irem (a &&& (2147483647 : Int32)) (500001 : Int32) 500001 rfl).1 b.1
  have q := c_isub (500001 : Int32) ((a &&& (2147483647 : Int32)) % (500001 : Int32))
  have e0 : (0 : Int32).toInt = 0 := rfl
  have e5 : (500001 : Int32).toInt = 500001 := rfl
  rw [← Int32.toInt_inj]
  omega
theorem own_pn_0 : plainName "com/example/wudaokou/wudaokou/guard/DecisionBlurPinLaw" = true := by first | (simp [plainName, overriddenIn]; done) | decide +kernel
theorem d1_0 : decode method_2_code 0 = .ok (.iload_n 0, 1) := by decide +kernel
theorem d1_1 : decode method_2_code 1 = .ok (.ldc 7, 2) := by decide +kernel
theorem d1_3 : decode method_2_code 3 = .ok (.iand, 1) := by decide +kernel
theorem d1_4 : decode method_2_code 4 = .ok (.ldc 8, 2) := by decide +kernel
theorem d1_6 : decode method_2_code 6 = .ok (.irem, 1) := by decide +kernel
theorem d1_7 : decode method_2_code 7 = .ok (.ireturn, 1) := by decide +kernel
theorem ef_1 (m : MethodId) (q1 : Int32) : entryFrame m #[(.int q1)] 1 = mkF m 0 #[.val (.int q1)] [] := by first | (simp [entryFrame, mkF, argsToLocals, Value.category]; done) | rfl
def Q1 (Z : State) (q1 : Int32) (h0 : Heap) (n0 : Nat) (v : Option Value) (h : Heap) (L : List Loc) : Prop := Fr n0 L ∧ h = h0 ∧ (v = some (.int ((q1 &&& (2147483647 : Int32)) % (500001 : Int32))))
set_option maxRecDepth 65536 in
set_option maxHeartbeats 40000000 in
theorem rmLow (l : Launch) (Z : State) (a0 : Array Value) (hw : ∀ d ∈ tables_1, d.before a0 Z = true) (ws : List Jvm.Cond) (q1 : Int32) (h0 : Heap) (n0 : Nat) (Z0 : n0 ≤ h0.size)  :
    MetFree l (⟨"com/example/wudaokou/wudaokou/guard/DecisionBlurPinLaw", "low", "(I)I"⟩ : MethodName) (head1 (Jvm.Cond.code (⟨"com/example/wudaokou/wudaokou/guard/DecisionBlurPinLaw", "low", "(I)I"⟩ : MethodName) method_2_code 1 (some .int) :: ws) ({ frames := 0, cells := 0, slots := 0, locals := 0 } : Room)) (fun a U => a = #[(.int q1)] ∧ Z.Warmed39 U.vm ∧ U.heap = h0) (fun _ _ _ _ _ => True) (fun _ U o U' => ∃ v L, o = .returned v ∧ Q1 Z q1 h0 n0 v U'.heap L ∧ FrameEnd U o U' L ({ frames := 0, cells := 0, slots := 0, locals := 0 } : Room).cells ({ frames := 0, cells := 0, slots := 0, locals := 0 } : Room).slots) := by
  refine MetFree.of_bodySF (plainFor_of_name own_pn_0) hisR ?_
  intro p e s m args below meth c s₁ Bd hml0 hP hK
  obtain ⟨rfl, hZ, hh⟩ := hP
  have hx := Bd.exec
  have hby := Bd.bytes
  have hml : c.maxLocals = 1 := hml0
  have hown : s.vm.findClass "com/example/wudaokou/wudaokou/guard/DecisionBlurPinLaw" = some m.cls := findClass_of_methodNamed Bd.named
  have hnm := (name_of_methodNamed Bd.named Bd.method).1
  have X0 : Stand p l e ({ frames := 0, cells := 0, slots := 0, locals := 0 } : Room) s m #[(.int q1)] below meth c s₁ [] 0 0 := Stand.of_body Bd
  have e0 : s₁.heap = h0 := by rw [← hh, Bd.state]; rfl
  have N0 := Fr.nil n0
  have pre0 : ∀ t, Steps p.tables e below (s₁.setTop (mkF m 0 #[.val (.int q1)] [])) t → Steps p.tables e below (s₁.setTop (entryFrame m #[(.int q1)] 1)) t := fun t k => castTop (ef_1 m q1) k
  obtain ⟨fs, hr, hrun, hended, hW, hsame⟩ := X0.leave (v := (some (.int ((q1 &&& (2147483647 : Int32)) % (500001 : Int32))))) (fun h => by rw [Bd.returns] at h; cases h)
  refine ⟨_, _, pre0 _ ?_, hrun, hended, _, _, rfl, ?_, ⟨_, rfl⟩, hW, hsame.mono (by decide) (by decide)⟩
  · show Steps p.tables e below (s₁.setTop (mkF m 0 #[.val (.int q1)] [])) _
    refine XS.iloadN X0.here hx rfl (hb hby d1_0) rfl ?_
    show Steps p.tables e below (s₁.setTop (mkF m 1 #[.val (.int q1)] [(.int q1)])) _
    refine X0.ldcInt hx hown (mvT hZ (own_k hw 4 rfl)) (g := (mkF m 1 #[.val (.int q1)] [(.int q1)])) rfl (hb hby d1_1) _ ?_
    show Steps p.tables e below (s₁.setTop (mkF m 3 #[.val (.int q1)] [(.int (2147483647 : Int32)), (.int q1)])) _
    refine XS.iand X0.here hx rfl (hb hby d1_3) rfl ?_
    show Steps p.tables e below (s₁.setTop (mkF m 4 #[.val (.int q1)] [(.int (q1 &&& (2147483647 : Int32)))])) _
    refine X0.ldcInt hx hown (mvT hZ (own_k hw 5 rfl)) (g := (mkF m 4 #[.val (.int q1)] [(.int (q1 &&& (2147483647 : Int32)))])) rfl (hb hby d1_4) _ ?_
    show Steps p.tables e below (s₁.setTop (mkF m 6 #[.val (.int q1)] [(.int (500001 : Int32)), (.int (q1 &&& (2147483647 : Int32)))])) _
    refine iremM X0 hx rfl (hb hby d1_6) rfl (by decide) ?_
    show Steps p.tables e below (s₁.setTop (mkF m 7 #[.val (.int q1)] [(.int ((q1 &&& (2147483647 : Int32)) % (500001 : Int32)))])) _
    exact retOut X0 hx Bd.returns rfl (Or.inl ⟨rfl, Or.inl rfl, _, rfl⟩) (hb hby d1_7) hr
  · show Q1 Z q1 h0 n0 _ s₁.heap _
    rw [e0]
    exact ⟨N0, rfl, rfl⟩
theorem d2_0 : decode method_3_code 0 = .ok (.iload_n 0, 1) := by decide +kernel
theorem d2_1 : decode method_3_code 1 = .ok (.iload_n 1, 1) := by decide +kernel
theorem d2_2 : decode method_3_code 2 = .ok (.ldc 7, 2) := by decide +kernel
theorem d2_4 : decode method_3_code 4 = .ok (.iand, 1) := by decide +kernel
theorem d2_5 : decode method_3_code 5 = .ok (.ldc 8, 2) := by decide +kernel
theorem d2_7 : decode method_3_code 7 = .ok (.iload_n 0, 1) := by decide +kernel
theorem d2_8 : decode method_3_code 8 = .ok (.isub, 1) := by decide +kernel
theorem d2_9 : decode method_3_code 9 = .ok (.irem, 1) := by decide +kernel
theorem d2_10 : decode method_3_code 10 = .ok (.iadd, 1) := by decide +kernel
theorem d2_11 : decode method_3_code 11 = .ok (.ireturn, 1) := by decide +kernel
theorem ef_2 (m : MethodId) (q1 : Int32) (q2 : Int32) : entryFrame m #[(.int q1), (.int q2)] 2 = mkF m 0 #[.val (.int q1), .val (.int q2)] [] := by first | (simp [entryFrame, mkF, argsToLocals, Value.category]; done) | rfl
def Q2 (Z : State) (q1 : Int32) (q2 : Int32) (h0 : Heap) (n0 : Nat) (v : Option Value) (h : Heap) (L : List Loc) : Prop := Fr n0 L ∧ h = h0 ∧ (v = some (.int (q1 + ((q2 &&& (2147483647 : Int32)) % ((500001 : Int32) - q1)))))
set_option maxRecDepth 65536 in
set_option maxHeartbeats 40000000 in
theorem rmHigh (l : Launch) (Z : State) (a0 : Array Value) (hw : ∀ d ∈ tables_1, d.before a0 Z = true) (ws : List Jvm.Cond) (q1 : Int32) (q2 : Int32) (h0 : Heap) (n0 : Nat) (Z0 : n0 ≤ h0.size) (hz : ¬ ((500001 : Int32) - q1 = (0 : Int32))) :
    MetFree l (⟨"com/example/wudaokou/wudaokou/guard/DecisionBlurPinLaw", "high", "(II)I"⟩ : MethodName) (head1 (Jvm.Cond.code (⟨"com/example/wudaokou/wudaokou/guard/DecisionBlurPinLaw", "high", "(II)I"⟩ : MethodName) method_3_code 2 (some .int) :: ws) ({ frames := 0, cells := 0, slots := 0, locals := 0 } : Room)) (fun a U => a = #[(.int q1), (.int q2)] ∧ Z.Warmed39 U.vm ∧ U.heap = h0) (fun _ _ _ _ _ => True) (fun _ U o U' => ∃ v L, o = .returned v ∧ Q2 Z q1 q2 h0 n0 v U'.heap L ∧ FrameEnd U o U' L ({ frames := 0, cells := 0, slots := 0, locals := 0 } : Room).cells ({ frames := 0, cells := 0, slots := 0, locals := 0 } : Room).slots) := by
  refine MetFree.of_bodySF (plainFor_of_name own_pn_0) hisR ?_
  intro p e s m args below meth c s₁ Bd hml0 hP hK
  obtain ⟨rfl, hZ, hh⟩ := hP
  have hx := Bd.exec
  have hby := Bd.bytes
  have hml : c.maxLocals = 2 := hml0
  have hown : s.vm.findClass "com/example/wudaokou/wudaokou/guard/DecisionBlurPinLaw" = some m.cls := findClass_of_methodNamed Bd.named
  have hnm := (name_of_methodNamed Bd.named Bd.method).1
  have X0 : Stand p l e ({ frames := 0, cells := 0, slots := 0, locals := 0 } : Room) s m #[(.int q1), (.int q2)] below meth c s₁ [] 0 0 := Stand.of_body Bd
  have e0 : s₁.heap = h0 := by rw [← hh, Bd.state]; rfl
  have N0 := Fr.nil n0
  have pre0 : ∀ t, Steps p.tables e below (s₁.setTop (mkF m 0 #[.val (.int q1), .val (.int q2)] [])) t → Steps p.tables e below (s₁.setTop (entryFrame m #[(.int q1), (.int q2)] 2)) t := fun t k => castTop (ef_2 m q1 q2) k
  obtain ⟨fs, hr, hrun, hended, hW, hsame⟩ := X0.leave (v := (some (.int (q1 + ((q2 &&& (2147483647 : Int32)) % ((500001 : Int32) - q1)))))) (fun h => by rw [Bd.returns] at h; cases h)
  refine ⟨_, _, pre0 _ ?_, hrun, hended, _, _, rfl, ?_, ⟨_, rfl⟩, hW, hsame.mono (by decide) (by decide)⟩
  · show Steps p.tables e below (s₁.setTop (mkF m 0 #[.val (.int q1), .val (.int q2)] [])) _
    refine XS.iloadN X0.here hx rfl (hb hby d2_0) rfl ?_
    show Steps p.tables e below (s₁.setTop (mkF m 1 #[.val (.int q1), .val (.int q2)] [(.int q1)])) _
    refine XS.iloadN X0.here hx rfl (hb hby d2_1) rfl ?_
    show Steps p.tables e below (s₁.setTop (mkF m 2 #[.val (.int q1), .val (.int q2)] [(.int q2), (.int q1)])) _
    refine X0.ldcInt hx hown (mvT hZ (own_k hw 4 rfl)) (g := (mkF m 2 #[.val (.int q1), .val (.int q2)] [(.int q2), (.int q1)])) rfl (hb hby d2_2) _ ?_
    show Steps p.tables e below (s₁.setTop (mkF m 4 #[.val (.int q1), .val (.int q2)] [(.int (2147483647 : Int32)), (.int q2), (.int q1)])) _
    refine XS.iand X0.here hx rfl (hb hby d2_4) rfl ?_
    show Steps p.tables e below (s₁.setTop (mkF m 5 #[.val (.int q1), .val (.int q2)] [(.int (q2 &&& (2147483647 : Int32))), (.int q1)])) _
    refine X0.ldcInt hx hown (mvT hZ (own_k hw 5 rfl)) (g := (mkF m 5 #[.val (.int q1), .val (.int q2)] [(.int (q2 &&& (2147483647 : Int32))), (.int q1)])) rfl (hb hby d2_5) _ ?_
    show Steps p.tables e below (s₁.setTop (mkF m 7 #[.val (.int q1), .val (.int q2)] [(.int (500001 : Int32)), (.int (q2 &&& (2147483647 : Int32))), (.int q1)])) _
    refine XS.iloadN X0.here hx rfl (hb hby d2_7) rfl ?_
    show Steps p.tables e below (s₁.setTop (mkF m 8 #[.val (.int q1), .val (.int q2)] [(.int q1), (.int (500001 : Int32)), (.int (q2 &&& (2147483647 : Int32))), (.int q1)])) _
    refine XS.isub X0.here hx rfl (hb hby d2_8) rfl ?_
    show Steps p.tables e below (s₁.setTop (mkF m 9 #[.val (.int q1), .val (.int q2)] [(.int ((500001 : Int32) - q1)), (.int (q2 &&& (2147483647 : Int32))), (.int q1)])) _
    refine iremM X0 hx rfl (hb hby d2_9) rfl hz ?_
    show Steps p.tables e below (s₁.setTop (mkF m 10 #[.val (.int q1), .val (.int q2)] [(.int ((q2 &&& (2147483647 : Int32)) % ((500001 : Int32) - q1))), (.int q1)])) _
    refine XS.iadd X0.here hx rfl (hb hby d2_10) rfl ?_
    show Steps p.tables e below (s₁.setTop (mkF m 11 #[.val (.int q1), .val (.int q2)] [(.int (q1 + ((q2 &&& (2147483647 : Int32)) % ((500001 : Int32) - q1))))])) _
    exact retOut X0 hx Bd.returns rfl (Or.inl ⟨rfl, Or.inl rfl, _, rfl⟩) (hb hby d2_11) hr
  · show Q2 Z q1 q2 h0 n0 _ s₁.heap _
    rw [e0]
    exact ⟨N0, rfl, rfl⟩
theorem own_pn_1 : plainName "com/example/wudaokou/wudaokou/guard/Policy$Decision" = true := by first | (simp [plainName, overriddenIn]; done) | decide +kernel
theorem d7_0 : decode prog_9_method_3_code 0 = .ok (.aload_n 0, 1) := by decide +kernel
theorem d7_1 : decode prog_9_method_3_code 1 = .ok (.getfield 7, 3) := by decide +kernel
theorem d7_4 : decode prog_9_method_3_code 4 = .ok (.areturn, 1) := by decide +kernel
theorem ef__kind (m : MethodId) (a1 : Addr) : entryFrame m #[(.ref a1)] 1 = mkF m 0 #[.val (.ref a1)] [] := by first | (simp [entryFrame, mkF, argsToLocals, Value.category]; done) | rfl
def Q_kind (Z : State) (a1 : Addr) (w2 : Addr) (h0 : Heap) (n0 : Nat) (v : Option Value) (h : Heap) (L : List Loc) : Prop := Fr n0 L ∧ h = h0 ∧ (v = some (.ref w2))
set_option maxRecDepth 65536 in
set_option maxHeartbeats 40000000 in
theorem rm_kind (l : Launch) (Z : State) (a0 : Array Value) (hw : ∀ d ∈ tables_1, d.before a0 Z = true) (ws : List Jvm.Cond) (a1 : Addr) (w2 : Addr) (h0 : Heap) (n0 : Nat) (Z0 : n0 ≤ h0.size) (hF : Fld Z h0 a1 "com/example/wudaokou/wudaokou/guard/Policy$Decision" "kind" "Lcom/example/wudaokou/wudaokou/guard/Policy$Decision$Kind;" (.ref w2)) :
    MetFree l (⟨"com/example/wudaokou/wudaokou/guard/Policy$Decision", "kind", "()Lcom/example/wudaokou/wudaokou/guard/Policy$Decision$Kind;"⟩ : MethodName) (head1 (Jvm.Cond.code (⟨"com/example/wudaokou/wudaokou/guard/Policy$Decision", "kind", "()Lcom/example/wudaokou/wudaokou/guard/Policy$Decision$Kind;"⟩ : MethodName) prog_9_method_3_code 1 (some (.object "com/example/wudaokou/wudaokou/guard/Policy$Decision$Kind")) :: ws) ({ frames := 0, cells := 0, slots := 0, locals := 0 } : Room)) (fun a U => a = #[(.ref a1)] ∧ Z.Warmed39 U.vm ∧ U.heap = h0) (fun _ _ _ _ _ => True) (fun _ U o U' => ∃ v L, o = .returned v ∧ Q_kind Z a1 w2 h0 n0 v U'.heap L ∧ FrameEnd U o U' L ({ frames := 0, cells := 0, slots := 0, locals := 0 } : Room).cells ({ frames := 0, cells := 0, slots := 0, locals := 0 } : Room).slots) := by
  refine MetFree.of_bodySF (plainFor_of_name own_pn_1) hisR ?_
  intro p e s m args below meth c s₁ Bd hml0 hP hK
  obtain ⟨rfl, hZ, hh⟩ := hP
  have hx := Bd.exec
  have hby := Bd.bytes
  have hml : c.maxLocals = 1 := hml0
  have hown : s.vm.findClass "com/example/wudaokou/wudaokou/guard/Policy$Decision" = some m.cls := findClass_of_methodNamed Bd.named
  have hnm := (name_of_methodNamed Bd.named Bd.method).1
  have X0 : Stand p l e ({ frames := 0, cells := 0, slots := 0, locals := 0 } : Room) s m #[(.ref a1)] below meth c s₁ [] 0 0 := Stand.of_body Bd
  have e0 : s₁.heap = h0 := by rw [← hh, Bd.state]; rfl
  have N0 := Fr.nil n0
  have pre0 : ∀ t, Steps p.tables e below (s₁.setTop (mkF m 0 #[.val (.ref a1)] [])) t → Steps p.tables e below (s₁.setTop (entryFrame m #[(.ref a1)] 1)) t := fun t k => castTop (ef__kind m a1) k
  obtain ⟨T1, X1, e1, st1⟩ := getF X0 hx hZ hown (host := "") (Or.inl (own_k hw 25 rfl)) Via.refl e0 hF (g := (mkF m 1 #[.val (.ref a1)] [(.ref a1)])) rfl rfl (hb hby d7_1)
  obtain ⟨fs, hr, hrun, hended, hW, hsame⟩ := X1.leave (v := (some (.ref w2))) (fun h => by rw [Bd.returns] at h; cases h)
  refine ⟨_, _, pre0 _ ?_, hrun, hended, _, _, rfl, ?_, ⟨_, rfl⟩, hW, hsame.mono (by decide) (by decide)⟩
  · show Steps p.tables e below (s₁.setTop (mkF m 0 #[.val (.ref a1)] [])) _
    refine XS.aloadN X0.here hx rfl (hb hby d7_0) rfl rfl ?_
    show Steps p.tables e below (s₁.setTop (mkF m 1 #[.val (.ref a1)] [(.ref a1)])) _
    refine st1 _ ?_
    show Steps p.tables e below (T1.setTop (mkF m 4 #[.val (.ref a1)] [(.ref w2)])) _
    exact retOut X1 hx Bd.returns rfl (Or.inr (Or.inr (Or.inr (Or.inr ⟨rfl, rfl, rfl⟩)))) (hb hby d7_4) hr
  · show Q_kind Z a1 w2 h0 n0 _ T1.heap _
    rw [e1]
    exact ⟨N0, rfl, rfl⟩
theorem d8_0 : decode prog_9_method_4_code 0 = .ok (.aload_n 0, 1) := by decide +kernel
theorem d8_1 : decode prog_9_method_4_code 1 = .ok (.getfield 13, 3) := by decide +kernel
theorem d8_4 : decode prog_9_method_4_code 4 = .ok (.dreturn, 1) := by decide +kernel
theorem ef__minKm (m : MethodId) (a1 : Addr) : entryFrame m #[(.ref a1)] 1 = mkF m 0 #[.val (.ref a1)] [] := by first | (simp [entryFrame, mkF, argsToLocals, Value.category]; done) | rfl
def Q_minKm (Z : State) (a1 : Addr) (w2 : UInt64) (h0 : Heap) (n0 : Nat) (v : Option Value) (h : Heap) (L : List Loc) : Prop := Fr n0 L ∧ h = h0 ∧ (v = some (.double w2))
set_option maxRecDepth 65536 in
set_option maxHeartbeats 40000000 in
theorem rm_minKm (l : Launch) (Z : State) (a0 : Array Value) (hw : ∀ d ∈ tables_1, d.before a0 Z = true) (ws : List Jvm.Cond) (a1 : Addr) (w2 : UInt64) (h0 : Heap) (n0 : Nat) (Z0 : n0 ≤ h0.size) (hF : Fld Z h0 a1 "com/example/wudaokou/wudaokou/guard/Policy$Decision" "minKm" "D" (.double w2)) :
    MetFree l (⟨"com/example/wudaokou/wudaokou/guard/Policy$Decision", "minKm", "()D"⟩ : MethodName) (head1 (Jvm.Cond.code (⟨"com/example/wudaokou/wudaokou/guard/Policy$Decision", "minKm", "()D"⟩ : MethodName) prog_9_method_4_code 1 (some .double) :: ws) ({ frames := 0, cells := 0, slots := 0, locals := 0 } : Room)) (fun a U => a = #[(.ref a1)] ∧ Z.Warmed39 U.vm ∧ U.heap = h0) (fun _ _ _ _ _ => True) (fun _ U o U' => ∃ v L, o = .returned v ∧ Q_minKm Z a1 w2 h0 n0 v U'.heap L ∧ FrameEnd U o U' L ({ frames := 0, cells := 0, slots := 0, locals := 0 } : Room).cells ({ frames := 0, cells := 0, slots := 0, locals := 0 } : Room).slots) := by
  refine MetFree.of_bodySF (plainFor_of_name own_pn_1) hisR ?_
  intro p e s m args below meth c s₁ Bd hml0 hP hK
  obtain ⟨rfl, hZ, hh⟩ := hP
  have hx := Bd.exec
  have hby := Bd.bytes
  have hml : c.maxLocals = 1 := hml0
  have hown : s.vm.findClass "com/example/wudaokou/wudaokou/guard/Policy$Decision" = some m.cls := findClass_of_methodNamed Bd.named
  have hnm := (name_of_methodNamed Bd.named Bd.method).1
  have X0 : Stand p l e ({ frames := 0, cells := 0, slots := 0, locals := 0 } : Room) s m #[(.ref a1)] below meth c s₁ [] 0 0 := Stand.of_body Bd
  have e0 : s₁.heap = h0 := by rw [← hh, Bd.state]; rfl
  have N0 := Fr.nil n0
  have pre0 : ∀ t, Steps p.tables e below (s₁.setTop (mkF m 0 #[.val (.ref a1)] [])) t → Steps p.tables e below (s₁.setTop (entryFrame m #[(.ref a1)] 1)) t := fun t k => castTop (ef__minKm m a1) k
  obtain ⟨T1, X1, e1, st1⟩ := getF X0 hx hZ hown (host := "") (Or.inl (own_k hw 27 rfl)) Via.refl e0 hF (g := (mkF m 1 #[.val (.ref a1)] [(.ref a1)])) rfl rfl (hb hby d8_1)
  obtain ⟨fs, hr, hrun, hended, hW, hsame⟩ := X1.leave (v := (some (.double w2))) (fun h => by rw [Bd.returns] at h; cases h)
  refine ⟨_, _, pre0 _ ?_, hrun, hended, _, _, rfl, ?_, ⟨_, rfl⟩, hW, hsame.mono (by decide) (by decide)⟩
  · show Steps p.tables e below (s₁.setTop (mkF m 0 #[.val (.ref a1)] [])) _
    refine XS.aloadN X0.here hx rfl (hb hby d8_0) rfl rfl ?_
    show Steps p.tables e below (s₁.setTop (mkF m 1 #[.val (.ref a1)] [(.ref a1)])) _
    refine st1 _ ?_
    show Steps p.tables e below (T1.setTop (mkF m 4 #[.val (.ref a1)] [(.double w2)])) _
    exact retOut X1 hx Bd.returns rfl (Or.inr (Or.inr (Or.inl ⟨rfl, rfl, _, rfl⟩))) (hb hby d8_4) hr
  · show Q_minKm Z a1 w2 h0 n0 _ T1.heap _
    rw [e1]
    exact ⟨N0, rfl, rfl⟩
theorem d9_0 : decode prog_9_method_5_code 0 = .ok (.aload_n 0, 1) := by decide +kernel
theorem d9_1 : decode prog_9_method_5_code 1 = .ok (.getfield 17, 3) := by decide +kernel
theorem d9_4 : decode prog_9_method_5_code 4 = .ok (.dreturn, 1) := by decide +kernel
theorem ef__maxKm (m : MethodId) (a1 : Addr) : entryFrame m #[(.ref a1)] 1 = mkF m 0 #[.val (.ref a1)] [] := by first | (simp [entryFrame, mkF, argsToLocals, Value.category]; done) | rfl
def Q_maxKm (Z : State) (a1 : Addr) (w2 : UInt64) (h0 : Heap) (n0 : Nat) (v : Option Value) (h : Heap) (L : List Loc) : Prop := Fr n0 L ∧ h = h0 ∧ (v = some (.double w2))
set_option maxRecDepth 65536 in
set_option maxHeartbeats 40000000 in
theorem rm_maxKm (l : Launch) (Z : State) (a0 : Array Value) (hw : ∀ d ∈ tables_1, d.before a0 Z = true) (ws : List Jvm.Cond) (a1 : Addr) (w2 : UInt64) (h0 : Heap) (n0 : Nat) (Z0 : n0 ≤ h0.size) (hF : Fld Z h0 a1 "com/example/wudaokou/wudaokou/guard/Policy$Decision" "maxKm" "D" (.double w2)) :
    MetFree l (⟨"com/example/wudaokou/wudaokou/guard/Policy$Decision", "maxKm", "()D"⟩ : MethodName) (head1 (Jvm.Cond.code (⟨"com/example/wudaokou/wudaokou/guard/Policy$Decision", "maxKm", "()D"⟩ : MethodName) prog_9_method_5_code 1 (some .double) :: ws) ({ frames := 0, cells := 0, slots := 0, locals := 0 } : Room)) (fun a U => a = #[(.ref a1)] ∧ Z.Warmed39 U.vm ∧ U.heap = h0) (fun _ _ _ _ _ => True) (fun _ U o U' => ∃ v L, o = .returned v ∧ Q_maxKm Z a1 w2 h0 n0 v U'.heap L ∧ FrameEnd U o U' L ({ frames := 0, cells := 0, slots := 0, locals := 0 } : Room).cells ({ frames := 0, cells := 0, slots := 0, locals := 0 } : Room).slots) := by
  refine MetFree.of_bodySF (plainFor_of_name own_pn_1) hisR ?_
  intro p e s m args below meth c s₁ Bd hml0 hP hK
  obtain ⟨rfl, hZ, hh⟩ := hP
  have hx := Bd.exec
  have hby := Bd.bytes
  have hml : c.maxLocals = 1 := hml0
  have hown : s.vm.findClass "com/example/wudaokou/wudaokou/guard/Policy$Decision" = some m.cls := findClass_of_methodNamed Bd.named
  have hnm := (name_of_methodNamed Bd.named Bd.method).1
  have X0 : Stand p l e ({ frames := 0, cells := 0, slots := 0, locals := 0 } : Room) s m #[(.ref a1)] below meth c s₁ [] 0 0 := Stand.of_body Bd
  have e0 : s₁.heap = h0 := by rw [← hh, Bd.state]; rfl
  have N0 := Fr.nil n0
  have pre0 : ∀ t, Steps p.tables e below (s₁.setTop (mkF m 0 #[.val (.ref a1)] [])) t → Steps p.tables e below (s₁.setTop (entryFrame m #[(.ref a1)] 1)) t := fun t k => castTop (ef__maxKm m a1) k
  obtain ⟨T1, X1, e1, st1⟩ := getF X0 hx hZ hown (host := "") (Or.inl (own_k hw 29 rfl)) Via.refl e0 hF (g := (mkF m 1 #[.val (.ref a1)] [(.ref a1)])) rfl rfl (hb hby d9_1)
  obtain ⟨fs, hr, hrun, hended, hW, hsame⟩ := X1.leave (v := (some (.double w2))) (fun h => by rw [Bd.returns] at h; cases h)
  refine ⟨_, _, pre0 _ ?_, hrun, hended, _, _, rfl, ?_, ⟨_, rfl⟩, hW, hsame.mono (by decide) (by decide)⟩
  · show Steps p.tables e below (s₁.setTop (mkF m 0 #[.val (.ref a1)] [])) _
    refine XS.aloadN X0.here hx rfl (hb hby d9_0) rfl rfl ?_
    show Steps p.tables e below (s₁.setTop (mkF m 1 #[.val (.ref a1)] [(.ref a1)])) _
    refine st1 _ ?_
    show Steps p.tables e below (T1.setTop (mkF m 4 #[.val (.ref a1)] [(.double w2)])) _
    exact retOut X1 hx Bd.returns rfl (Or.inr (Or.inr (Or.inl ⟨rfl, rfl, _, rfl⟩))) (hb hby d9_4) hr
  · show Q_maxKm Z a1 w2 h0 n0 _ T1.heap _
    rw [e1]
    exact ⟨N0, rfl, rfl⟩
theorem d4_0 : decode prog_9_method_1_code 0 = .ok (.aload_n 0, 1) := by decide +kernel
theorem d4_1 : decode prog_9_method_1_code 1 = .ok (.invokespecial 1, 3) := by decide +kernel
theorem d4_4 : decode prog_9_method_1_code 4 = .ok (.aload_n 0, 1) := by decide +kernel
theorem d4_5 : decode prog_9_method_1_code 5 = .ok (.aload_n 1, 1) := by decide +kernel
theorem d4_6 : decode prog_9_method_1_code 6 = .ok (.putfield 7, 3) := by decide +kernel
theorem d4_9 : decode prog_9_method_1_code 9 = .ok (.aload_n 0, 1) := by decide +kernel
theorem d4_10 : decode prog_9_method_1_code 10 = .ok (.dload_n 2, 1) := by decide +kernel
theorem d4_11 : decode prog_9_method_1_code 11 = .ok (.putfield 13, 3) := by decide +kernel
theorem d4_14 : decode prog_9_method_1_code 14 = .ok (.aload_n 0, 1) := by decide +kernel
theorem d4_15 : decode prog_9_method_1_code 15 = .ok (.dload 4, 2) := by decide +kernel
theorem d4_17 : decode prog_9_method_1_code 17 = .ok (.putfield 17, 3) := by decide +kernel
theorem d4_20 : decode prog_9_method_1_code 20 = .ok (.return_, 1) := by decide +kernel
theorem ef_4 (m : MethodId) (a1 : Addr) (a2 : Addr) (d3 : UInt64) (d4 : UInt64) : entryFrame m #[(.ref a1), (.ref a2), (.double d3), (.double d4)] 6 = mkF m 0 #[.val (.ref a1), .val (.ref a2), .val (.double d3), .second, .val (.double d4), .second] [] := by first | (simp [entryFrame, mkF, argsToLocals, Value.category]; done) | rfl
def Q4 (Z : State) (a1 : Addr) (a2 : Addr) (d3 : UInt64) (d4 : UInt64) (h0 : Heap) (n0 : Nat) (v : Option Value) (h : Heap) (L : List Loc) : Prop := Fr n0 L ∧ Keep h0 h [a1] ∧ Exa Z h a1 "com/example/wudaokou/wudaokou/guard/Policy$Decision" ∧ Fld Z h a1 "com/example/wudaokou/wudaokou/guard/Policy$Decision" "kind" "Lcom/example/wudaokou/wudaokou/guard/Policy$Decision$Kind;" (.ref a2) ∧ Fld Z h a1 "com/example/wudaokou/wudaokou/guard/Policy$Decision" "minKm" "D" (.double d3) ∧ Fld Z h a1 "com/example/wudaokou/wudaokou/guard/Policy$Decision" "maxKm" "D" (.double d4) ∧ (v = none)
set_option maxRecDepth 65536 in
set_option maxHeartbeats 40000000 in
theorem rmInit (l : Launch) (Z : State) (a0 : Array Value) (hw : ∀ d ∈ tables_1, d.before a0 Z = true) (ws : List Jvm.Cond) (a1 : Addr) (a2 : Addr) (d3 : UInt64) (d4 : UInt64) (h0 : Heap) (n0 : Nat) (Z0 : n0 ≤ h0.size) (hE : Exa Z h0 a1 "com/example/wudaokou/wudaokou/guard/Policy$Decision") (hF1 : Fld Z h0 a1 "com/example/wudaokou/wudaokou/guard/Policy$Decision" "kind" "Lcom/example/wudaokou/wudaokou/guard/Policy$Decision$Kind;" .null) (hF2 : Fld Z h0 a1 "com/example/wudaokou/wudaokou/guard/Policy$Decision" "minKm" "D" (.double (0 : UInt64))) (hF3 : Fld Z h0 a1 "com/example/wudaokou/wudaokou/guard/Policy$Decision" "maxKm" "D" (.double (0 : UInt64))) (hG1 : n0 ≤ a1) :
    MetFree l (⟨"com/example/wudaokou/wudaokou/guard/Policy$Decision", "<init>", "(Lcom/example/wudaokou/wudaokou/guard/Policy$Decision$Kind;DD)V"⟩ : MethodName) (head1 (Jvm.Cond.code (⟨"com/example/wudaokou/wudaokou/guard/Policy$Decision", "<init>", "(Lcom/example/wudaokou/wudaokou/guard/Policy$Decision$Kind;DD)V"⟩ : MethodName) prog_9_method_1_code 6 none :: ws) ({ frames := 1, cells := 0, slots := 0, locals := 12 } : Room)) (fun a U => a = #[(.ref a1), (.ref a2), (.double d3), (.double d4)] ∧ Z.Warmed39 U.vm ∧ U.heap = h0) (fun _ _ _ _ _ => True) (fun _ U o U' => ∃ v L, o = .returned v ∧ Q4 Z a1 a2 d3 d4 h0 n0 v U'.heap L ∧ FrameEnd U o U' L ({ frames := 1, cells := 0, slots := 0, locals := 12 } : Room).cells ({ frames := 1, cells := 0, slots := 0, locals := 12 } : Room).slots) := by
  refine MetFree.of_bodySF (plainFor_of_name own_pn_1) hisR ?_
  intro p e s m args below meth c s₁ Bd hml0 hP hK
  obtain ⟨rfl, hZ, hh⟩ := hP
  have hx := Bd.exec
  have hby := Bd.bytes
  have hml : c.maxLocals = 6 := hml0
  have hown : s.vm.findClass "com/example/wudaokou/wudaokou/guard/Policy$Decision" = some m.cls := findClass_of_methodNamed Bd.named
  have hnm := (name_of_methodNamed Bd.named Bd.method).1
  have X0 : Stand p l e ({ frames := 1, cells := 0, slots := 0, locals := 12 } : Room) s m #[(.ref a1), (.ref a2), (.double d3), (.double d4)] below meth c s₁ [] 0 0 := Stand.of_body Bd
  have e0 : s₁.heap = h0 := by rw [← hh, Bd.state]; rfl
  have N0 := Fr.nil n0
  have pre0 : ∀ t, Steps p.tables e below (s₁.setTop (mkF m 0 #[.val (.ref a1), .val (.ref a2), .val (.double d3), .second, .val (.double d4), .second] [])) t → Steps p.tables e below (s₁.setTop (entryFrame m #[(.ref a1), (.ref a2), (.double d3), (.double d4)] 6)) t := fun t k => castTop (ef_4 m a1 a2 d3 d4) k
  obtain ⟨T1, X1, e1, st1⟩ := initO X0 hx hZ hown (own_k hw 22 rfl) (own_k hw 23 rfl) (own_k hw 24 rfl) e0 (g := (mkF m 1 #[.val (.ref a1), .val (.ref a2), .val (.double d3), .second, .val (.double d4), .second] [(.ref a1)])) rfl (by rw [hml]; rfl) rfl (hb hby d4_1) (by decide) (W := 0) (by show 2 * 0 + _ ≤ _; exact Nat.le_of_eq rfl) (by decide)
  obtain ⟨T2, h2, X2, e2, W2, st2⟩ := putF X1 hx hZ hown (host := "") (Or.inl (own_k hw 25 rfl)) Via.refl e1 hF1 hE (Or.inr ⟨(own_k hw 26 rfl), rfl, hnm⟩) (own_k hw 15 rfl) (ty := (.object "com/example/wudaokou/wudaokou/guard/Policy$Decision$Kind")) (by decide) rfl rfl (g := (mkF m 6 #[.val (.ref a1), .val (.ref a2), .val (.double d3), .second, .val (.double d4), .second] [(.ref a2), (.ref a1)])) rfl rfl (hb hby d4_6)
  have N2 := Fr.snoc X2 N0 hG1
  have K3 : Keep h0 h2 [a1] := (Keep.refl h0 [a1]).wr W2 (Or.inl (List.mem_of_getElem? (i := 0) rfl))
  have Fw2 : Fld Z h2 a1 "com/example/wudaokou/wudaokou/guard/Policy$Decision" "kind" "Lcom/example/wudaokou/wudaokou/guard/Policy$Decision$Kind;" (.ref a2) := hF1.same W2
  have f4 : Fld Z h2 a1 "com/example/wudaokou/wudaokou/guard/Policy$Decision" "minKm" "D" (.double (0 : UInt64)) := (hF2.other W2 (Or.inr (slot_ne (Or.inr (own_k hw 28 rfl)) (Or.inr (own_k hw 26 rfl)) (by decide) (t := .double) (t' := (.object "com/example/wudaokou/wudaokou/guard/Policy$Decision$Kind")) (by decide) (by decide))))
  have f5 : Exa Z h2 a1 "com/example/wudaokou/wudaokou/guard/Policy$Decision" := (hE.wr W2)
  obtain ⟨T6, h6, X6, e6, W6, st6⟩ := putF X2 hx hZ hown (host := "") (Or.inl (own_k hw 27 rfl)) Via.refl e2 f4 f5 (Or.inr ⟨(own_k hw 28 rfl), rfl, hnm⟩) (own_k hw 15 rfl) (ty := .double) (by decide) rfl rfl (g := (mkF m 11 #[.val (.ref a1), .val (.ref a2), .val (.double d3), .second, .val (.double d4), .second] [(.double d3), (.ref a1)])) rfl rfl (hb hby d4_11)
  have N6 := Fr.snoc X6 N2 hG1
  have K7 : Keep h0 h6 [a1] := K3.wr W6 (Or.inl (List.mem_of_getElem? (i := 0) rfl))
  have Fw6 : Fld Z h6 a1 "com/example/wudaokou/wudaokou/guard/Policy$Decision" "minKm" "D" (.double d3) := f4.same W6
  have f8 : Fld Z h6 a1 "com/example/wudaokou/wudaokou/guard/Policy$Decision" "maxKm" "D" (.double (0 : UInt64)) := ((hF3.other W2 (Or.inr (slot_ne (Or.inr (own_k hw 30 rfl)) (Or.inr (own_k hw 26 rfl)) (by decide) (t := .double) (t' := (.object "com/example/wudaokou/wudaokou/guard/Policy$Decision$Kind")) (by decide) (by decide)))).other W6 (Or.inr (slot_ne (Or.inr (own_k hw 30 rfl)) (Or.inr (own_k hw 28 rfl)) (by decide) (t := .double) (t' := .double) (by decide) (by decide))))
  have f9 : Exa Z h6 a1 "com/example/wudaokou/wudaokou/guard/Policy$Decision" := (f5.wr W6)
  obtain ⟨T10, h10, X10, e10, W10, st10⟩ := putF X6 hx hZ hown (host := "") (Or.inl (own_k hw 29 rfl)) Via.refl e6 f8 f9 (Or.inr ⟨(own_k hw 30 rfl), rfl, hnm⟩) (own_k hw 15 rfl) (ty := .double) (by decide) rfl rfl (g := (mkF m 17 #[.val (.ref a1), .val (.ref a2), .val (.double d3), .second, .val (.double d4), .second] [(.double d4), (.ref a1)])) rfl rfl (hb hby d4_17)
  have N10 := Fr.snoc X10 N6 hG1
  have K11 : Keep h0 h10 [a1] := K7.wr W10 (Or.inl (List.mem_of_getElem? (i := 0) rfl))
  have Fw10 : Fld Z h10 a1 "com/example/wudaokou/wudaokou/guard/Policy$Decision" "maxKm" "D" (.double d4) := f8.same W10
  have f12 : Exa Z h10 a1 "com/example/wudaokou/wudaokou/guard/Policy$Decision" := (f9.wr W10)
  have f13 : Fld Z h10 a1 "com/example/wudaokou/wudaokou/guard/Policy$Decision" "kind" "Lcom/example/wudaokou/wudaokou/guard/Policy$Decision$Kind;" (.ref a2) := ((Fw2.other W6 (Or.inr (slot_ne (Or.inr (own_k hw 26 rfl)) (Or.inr (own_k hw 28 rfl)) (by decide) (t := (.object "com/example/wudaokou/wudaokou/guard/Policy$Decision$Kind")) (t' := .double) (by decide) (by decide)))).other W10 (Or.inr (slot_ne (Or.inr (own_k hw 26 rfl)) (Or.inr (own_k hw 30 rfl)) (by decide) (t := (.object "com/example/wudaokou/wudaokou/guard/Policy$Decision$Kind")) (t' := .double) (by decide) (by decide))))
  have f14 : Fld Z h10 a1 "com/example/wudaokou/wudaokou/guard/Policy$Decision" "minKm" "D" (.double d3) := (Fw6.other W10 (Or.inr (slot_ne (Or.inr (own_k hw 28 rfl)) (Or.inr (own_k hw 30 rfl)) (by decide) (t := .double) (t' := .double) (by decide) (by decide))))
  obtain ⟨fs, hr, hrun, hended, hW, hsame⟩ := X10.leave (v := none) (fun _ => rfl)
  refine ⟨_, _, pre0 _ ?_, hrun, hended, _, _, rfl, ?_, ⟨_, rfl⟩, hW, hsame.mono (by decide) (by decide)⟩
  · show Steps p.tables e below (s₁.setTop (mkF m 0 #[.val (.ref a1), .val (.ref a2), .val (.double d3), .second, .val (.double d4), .second] [])) _
    refine XS.aloadN X0.here hx rfl (hb hby d4_0) rfl rfl ?_
    show Steps p.tables e below (s₁.setTop (mkF m 1 #[.val (.ref a1), .val (.ref a2), .val (.double d3), .second, .val (.double d4), .second] [(.ref a1)])) _
    refine st1 _ ?_
    show Steps p.tables e below (T1.setTop (mkF m 4 #[.val (.ref a1), .val (.ref a2), .val (.double d3), .second, .val (.double d4), .second] [])) _
    refine XS.aloadN X1.here hx rfl (hb hby d4_4) rfl rfl ?_
    show Steps p.tables e below (T1.setTop (mkF m 5 #[.val (.ref a1), .val (.ref a2), .val (.double d3), .second, .val (.double d4), .second] [(.ref a1)])) _
    refine XS.aloadN X1.here hx rfl (hb hby d4_5) rfl rfl ?_
    show Steps p.tables e below (T1.setTop (mkF m 6 #[.val (.ref a1), .val (.ref a2), .val (.double d3), .second, .val (.double d4), .second] [(.ref a2), (.ref a1)])) _
    refine st2 _ ?_
    show Steps p.tables e below (T2.setTop (mkF m 9 #[.val (.ref a1), .val (.ref a2), .val (.double d3), .second, .val (.double d4), .second] [])) _
    refine XS.aloadN X2.here hx rfl (hb hby d4_9) rfl rfl ?_
    show Steps p.tables e below (T2.setTop (mkF m 10 #[.val (.ref a1), .val (.ref a2), .val (.double d3), .second, .val (.double d4), .second] [(.ref a1)])) _
    refine XS.dloadN X2.here hx rfl (hb hby d4_10) rfl ?_
    show Steps p.tables e below (T2.setTop (mkF m 11 #[.val (.ref a1), .val (.ref a2), .val (.double d3), .second, .val (.double d4), .second] [(.double d3), (.ref a1)])) _
    refine st6 _ ?_
    show Steps p.tables e below (T6.setTop (mkF m 14 #[.val (.ref a1), .val (.ref a2), .val (.double d3), .second, .val (.double d4), .second] [])) _
    refine XS.aloadN X6.here hx rfl (hb hby d4_14) rfl rfl ?_
    show Steps p.tables e below (T6.setTop (mkF m 15 #[.val (.ref a1), .val (.ref a2), .val (.double d3), .second, .val (.double d4), .second] [(.ref a1)])) _
    refine XS.dload X6.here hx rfl (hb hby d4_15) rfl ?_
    show Steps p.tables e below (T6.setTop (mkF m 17 #[.val (.ref a1), .val (.ref a2), .val (.double d3), .second, .val (.double d4), .second] [(.double d4), (.ref a1)])) _
    refine st10 _ ?_
    show Steps p.tables e below (T10.setTop (mkF m 20 #[.val (.ref a1), .val (.ref a2), .val (.double d3), .second, .val (.double d4), .second] [])) _
    exact X10.returnOut hx Bd.returns (hb hby d4_20) hr
  · show Q4 Z a1 a2 d3 d4 h0 n0 _ T10.heap _
    rw [e10]
    exact ⟨N10, K11, f12, f13, f14, Fw10, rfl⟩
theorem d3_0 : decode prog_9_method_2_code 0 = .ok (.new 8, 3) := by decide +kernel
theorem d3_3 : decode prog_9_method_2_code 3 = .ok (.dup, 1) := by decide +kernel
theorem d3_4 : decode prog_9_method_2_code 4 = .ok (.getstatic 20, 3) := by decide +kernel
theorem d3_7 : decode prog_9_method_2_code 7 = .ok (.dload_n 0, 1) := by decide +kernel
theorem d3_8 : decode prog_9_method_2_code 8 = .ok (.dload_n 2, 1) := by decide +kernel
theorem d3_9 : decode prog_9_method_2_code 9 = .ok (.invokespecial 25, 3) := by decide +kernel
theorem own_pd_0 : parseMethodDescriptor "(Lcom/example/wudaokou/wudaokou/guard/Policy$Decision$Kind;DD)V" = some ⟨[(.object "com/example/wudaokou/wudaokou/guard/Policy$Decision$Kind"), .double, .double], none⟩ := by decide +kernel
theorem d3_12 : decode prog_9_method_2_code 12 = .ok (.areturn, 1) := by decide +kernel
theorem ef_3 (m : MethodId) (d1 : UInt64) (d2 : UInt64) : entryFrame m #[(.double d1), (.double d2)] 4 = mkF m 0 #[.val (.double d1), .second, .val (.double d2), .second] [] := by first | (simp [entryFrame, mkF, argsToLocals, Value.category]; done) | rfl
def Q3 (Z : State) (d1 : UInt64) (d2 : UInt64) (u0 : Addr) (h0 : Heap) (n0 : Nat) (v : Option Value) (h : Heap) (L : List Loc) : Prop := ∃ (bb : Addr), Fr n0 L ∧ Keep h0 h [] ∧ h0.size ≤ bb ∧ Exa Z h bb "com/example/wudaokou/wudaokou/guard/Policy$Decision" ∧ Fld Z h bb "com/example/wudaokou/wudaokou/guard/Policy$Decision" "kind" "Lcom/example/wudaokou/wudaokou/guard/Policy$Decision$Kind;" (.ref u0) ∧ Fld Z h bb "com/example/wudaokou/wudaokou/guard/Policy$Decision" "minKm" "D" (.double d1) ∧ Fld Z h bb "com/example/wudaokou/wudaokou/guard/Policy$Decision" "maxKm" "D" (.double d2) ∧ (v = some (.ref bb))
set_option maxRecDepth 65536 in
set_option maxHeartbeats 40000000 in
theorem rmBlur (l : Launch) (Z : State) (a0 : Array Value) (hw : ∀ d ∈ tables_1, d.before a0 Z = true) (ws : List Jvm.Cond) (d1 : UInt64) (d2 : UInt64) (u0 : Addr) (h0 : Heap) (n0 : Nat) (Z0 : n0 ≤ h0.size) (hS : Sta Z Z.heap "com/example/wudaokou/wudaokou/guard/Policy$Decision$Kind" "BLUR" "Lcom/example/wudaokou/wudaokou/guard/Policy$Decision$Kind;" (.ref u0)) (hO : Old Z n0 h0) :
    MetFree l (⟨"com/example/wudaokou/wudaokou/guard/Policy$Decision", "blur", "(DD)Lcom/example/wudaokou/wudaokou/guard/Policy$Decision;"⟩ : MethodName) (head1 (Jvm.Cond.code (⟨"com/example/wudaokou/wudaokou/guard/Policy$Decision", "blur", "(DD)Lcom/example/wudaokou/wudaokou/guard/Policy$Decision;"⟩ : MethodName) prog_9_method_2_code 4 (some (.object "com/example/wudaokou/wudaokou/guard/Policy$Decision")) :: ws) ({ frames := 2, cells := 1, slots := 3, locals := 30 } : Room)) (fun a U => a = #[(.double d1), (.double d2)] ∧ Z.Warmed39 U.vm ∧ U.heap = h0) (fun _ _ _ _ _ => True) (fun _ U o U' => ∃ v L, o = .returned v ∧ Q3 Z d1 d2 u0 h0 n0 v U'.heap L ∧ FrameEnd U o U' L ({ frames := 2, cells := 1, slots := 3, locals := 30 } : Room).cells ({ frames := 2, cells := 1, slots := 3, locals := 30 } : Room).slots) := by
  refine MetFree.of_bodySF (plainFor_of_name own_pn_1) hisR ?_
  intro p e s m args below meth c s₁ Bd hml0 hP hK
  obtain ⟨rfl, hZ, hh⟩ := hP
  have hx := Bd.exec
  have hby := Bd.bytes
  have hml : c.maxLocals = 4 := hml0
  have hown : s.vm.findClass "com/example/wudaokou/wudaokou/guard/Policy$Decision" = some m.cls := findClass_of_methodNamed Bd.named
  have hnm := (name_of_methodNamed Bd.named Bd.method).1
  have X0 : Stand p l e ({ frames := 2, cells := 1, slots := 3, locals := 30 } : Room) s m #[(.double d1), (.double d2)] below meth c s₁ [] 0 0 := Stand.of_body Bd
  have e0 : s₁.heap = h0 := by rw [← hh, Bd.state]; rfl
  have N0 := Fr.nil n0
  have pre0 : ∀ t, Steps p.tables e below (s₁.setTop (mkF m 0 #[.val (.double d1), .second, .val (.double d2), .second] [])) t → Steps p.tables e below (s₁.setTop (entryFrame m #[(.double d1), (.double d2)] 4)) t := fun t k => castTop (ef_3 m d1 d2) k
  obtain ⟨T1, h1, X1, e1, E1, A1, D1, -, st1⟩ := newO X0 hx hZ hown (own_k hw 14 rfl) (own_k hw 15 rfl) (own_k hw 12 rfl) e0 (g := (mkF m 0 #[.val (.double d1), .second, .val (.double d2), .second] [])) rfl (hb hby d3_0) (by decide) (by decide)
  obtain ⟨b1, g1⟩ : ∃ z, z = h0.size := ⟨_, rfl⟩
  rw [← g1] at A1 D1 st1
  have g_b1 : n0 ≤ b1 := Nat.le_trans Z0 (Nat.le_of_eq g1.symm)
  have sz_b1 : h0.size ≤ b1 := Nat.le_trans (Keep.refl h0 []).1 (Nat.le_of_eq g1.symm)
  have K2 : Keep h0 h1 [] := (Keep.refl h0 []).ext E1
  have F1_kind : Fld Z h1 b1 "com/example/wudaokou/wudaokou/guard/Policy$Decision" "kind" "Lcom/example/wudaokou/wudaokou/guard/Policy$Decision$Kind;" .null := D1 (Or.inr (own_k hw 26 rfl)) (ty := (.object "com/example/wudaokou/wudaokou/guard/Policy$Decision$Kind")) (by decide)
  have F1_minKm : Fld Z h1 b1 "com/example/wudaokou/wudaokou/guard/Policy$Decision" "minKm" "D" (.double (0 : UInt64)) := D1 (Or.inr (own_k hw 28 rfl)) (ty := .double) (by decide)
  have F1_maxKm : Fld Z h1 b1 "com/example/wudaokou/wudaokou/guard/Policy$Decision" "maxKm" "D" (.double (0 : UInt64)) := D1 (Or.inr (own_k hw 30 rfl)) (ty := .double) (by decide)
  have f4 : Old Z n0 h1 := (hO.ext E1)
  obtain ⟨T3, X3, e3, st3⟩ := getS2 X1 hx hZ hown (host := "") (Or.inl (own_k hw 16 rfl)) Via.refl e1 (hS.ext f4.2) (g := (mkF m 4 #[.val (.double d1), .second, .val (.double d2), .second] [(.ref b1), (.ref b1)])) rfl (hb hby d3_4)
  have f6 : n0 ≤ h1.size := (Nat.le_trans Z0 E1.1)
  obtain ⟨_, _, ⟨T5, L5, k5, n5⟩, -, X5, ⟨Lc5, hQ5, l5, y5, z5⟩, st5⟩ := X3.specialBack hx (y := (⟨"com/example/wudaokou/wudaokou/guard/Policy$Decision", "<init>", "(Lcom/example/wudaokou/wudaokou/guard/Policy$Decision$Kind;DD)V"⟩ : MethodName)) rfl hown (mvT hZ (own_k hw 19 rfl)) (mvT hZ (own_k hw 20 rfl)) (mvT hZ (own_k hw 21 rfl)) (by decide) (backOf (W := 1) (rmInit l Z a0 hw [] b1 u0 d1 d2 h1 n0 f6 A1 F1_kind F1_minKm F1_maxKm g_b1) hZ (own_k hw 21 rfl) (own_k hw 12 rfl) (by decide) (by decide)) (g := (mkF m 9 #[.val (.double d1), .second, .val (.double d2), .second] [(.double d2), (.double d1), (.ref u0), (.ref b1), (.ref b1)])) rfl (by rw [hml]; rfl) (Steps.refl _) (a := b1) (argsL := [(.ref u0), (.double d1), (.double d2)]) (rest := [(.ref b1)]) (lenOf own_pd_0 rfl) rfl (by show 2 * 0 + _ ≤ _; exact Nat.le_of_eq rfl) (hb hby d3_9) (fun _ _ => ⟨rfl, e3, (by decide : 1 + 0 ≤ _), (by decide : 3 + 0 ≤ _)⟩)
  dsimp only [Pt.U, Pt.locs, Pt.cells, Pt.slots] at X5 l5 y5 z5 st5 hQ5
  subst l5 y5 z5
  obtain ⟨Nq5, Kq5, p5_0, p5_1, p5_2, p5_3, hv5⟩ := hQ5
  have N5 := Fr.app N0 Nq5
  have K7 : Keep h0 T5.heap [] := K2.trans Kq5 (allS (Or.inr sz_b1) all0)
  subst hv5
  obtain ⟨fs, hr, hrun, hended, hW, hsame⟩ := X5.leave (v := (some (.ref b1))) (fun h => by rw [Bd.returns] at h; cases h)
  refine ⟨_, _, pre0 _ ?_, hrun, hended, _, _, rfl, ?_, ⟨_, rfl⟩, hW, hsame.mono (by decide) (by decide)⟩
  · show Steps p.tables e below (s₁.setTop (mkF m 0 #[.val (.double d1), .second, .val (.double d2), .second] [])) _
    refine st1 _ ?_
    show Steps p.tables e below (T1.setTop (mkF m 3 #[.val (.double d1), .second, .val (.double d2), .second] [(.ref b1)])) _
    refine XS.dup X1.here hx rfl (hb hby d3_3) rfl rfl ?_
    show Steps p.tables e below (T1.setTop (mkF m 4 #[.val (.double d1), .second, .val (.double d2), .second] [(.ref b1), (.ref b1)])) _
    refine st3 _ ?_
    show Steps p.tables e below (T3.setTop (mkF m 7 #[.val (.double d1), .second, .val (.double d2), .second] [(.ref u0), (.ref b1), (.ref b1)])) _
    refine XS.dloadN X3.here hx rfl (hb hby d3_7) rfl ?_
    show Steps p.tables e below (T3.setTop (mkF m 8 #[.val (.double d1), .second, .val (.double d2), .second] [(.double d1), (.ref u0), (.ref b1), (.ref b1)])) _
    refine XS.dloadN X3.here hx rfl (hb hby d3_8) rfl ?_
    show Steps p.tables e below (T3.setTop (mkF m 9 #[.val (.double d1), .second, .val (.double d2), .second] [(.double d2), (.double d1), (.ref u0), (.ref b1), (.ref b1)])) _
    refine st5.trans ?_
    show Steps p.tables e below (T5.setTop (mkF m 12 #[.val (.double d1), .second, .val (.double d2), .second] [(.ref b1)])) _
    exact retOut X5 hx Bd.returns rfl (Or.inr (Or.inr (Or.inr (Or.inr ⟨rfl, rfl, rfl⟩)))) (hb hby d3_12) hr
  · show Q3 Z d1 d2 u0 h0 n0 _ T5.heap _
    exact ⟨b1, N5, K7, sz_b1, p5_0, p5_1, p5_2, p5_3, rfl⟩
theorem d6_0 : decode method_4_code 0 = .ok (.aload_n 0, 1) := by decide +kernel
theorem d6_1 : decode method_4_code 1 = .ok (.ifnull 35, 3) := by decide +kernel
theorem d6_4 : decode method_4_code 4 = .ok (.aload_n 0, 1) := by decide +kernel
theorem d6_5 : decode method_4_code 5 = .ok (.invokevirtual 9, 3) := by decide +kernel
theorem own_pd_1 : parseMethodDescriptor "()Lcom/example/wudaokou/wudaokou/guard/Policy$Decision$Kind;" = some ⟨[], some (.object "com/example/wudaokou/wudaokou/guard/Policy$Decision$Kind")⟩ := by decide +kernel
theorem d6_8 : decode method_4_code 8 = .ok (.getstatic 15, 3) := by decide +kernel
theorem d6_11 : decode method_4_code 11 = .ok (.if_acmp .ne 25, 3) := by decide +kernel
theorem d6_14 : decode method_4_code 14 = .ok (.aload_n 0, 1) := by decide +kernel
theorem d6_15 : decode method_4_code 15 = .ok (.invokevirtual 21, 3) := by decide +kernel
theorem own_pd_2 : parseMethodDescriptor "()D" = some ⟨[], some .double⟩ := by decide +kernel
theorem d6_18 : decode method_4_code 18 = .ok (.dload_n 1, 1) := by decide +kernel
theorem d6_19 : decode method_4_code 19 = .ok (.dcmp .l, 1) := by decide +kernel
theorem d6_20 : decode method_4_code 20 = .ok (.ifCond .ne 16, 3) := by decide +kernel
theorem d6_23 : decode method_4_code 23 = .ok (.aload_n 0, 1) := by decide +kernel
theorem d6_24 : decode method_4_code 24 = .ok (.invokevirtual 25, 3) := by decide +kernel
theorem d6_27 : decode method_4_code 27 = .ok (.dload_n 3, 1) := by decide +kernel
theorem d6_28 : decode method_4_code 28 = .ok (.dcmp .l, 1) := by decide +kernel
theorem d6_29 : decode method_4_code 29 = .ok (.ifCond .ne 7, 3) := by decide +kernel
theorem d6_32 : decode method_4_code 32 = .ok (.iconst 1, 1) := by decide +kernel
theorem d6_33 : decode method_4_code 33 = .ok (.goto 4, 3) := by decide +kernel
theorem d6_37 : decode method_4_code 37 = .ok (.ireturn, 1) := by decide +kernel
theorem ef_6 (m : MethodId) (a1 : Addr) (d2 : UInt64) (d3 : UInt64) : entryFrame m #[(.ref a1), (.double d2), (.double d3)] 5 = mkF m 0 #[.val (.ref a1), .val (.double d2), .second, .val (.double d3), .second] [] := by first | (simp [entryFrame, mkF, argsToLocals, Value.category]; done) | rfl
def Q6 (Z : State) (a1 : Addr) (d2 : UInt64) (d3 : UInt64) (u0 : Addr) (h0 : Heap) (n0 : Nat) (v : Option Value) (h : Heap) (L : List Loc) : Prop := Fr n0 L ∧ h = h0 ∧ (v = some (.int (1 : Int32)))
set_option maxRecDepth 65536 in
set_option maxHeartbeats 40000000 in
theorem rmHolds (l : Launch) (Z : State) (a0 : Array Value) (hw : ∀ d ∈ tables_1, d.before a0 Z = true) (ws : List Jvm.Cond) (a1 : Addr) (d2 : UInt64) (d3 : UInt64) (u0 : Addr) (h0 : Heap) (n0 : Nat) (Z0 : n0 ≤ h0.size) (hS : Sta Z Z.heap "com/example/wudaokou/wudaokou/guard/Policy$Decision$Kind" "BLUR" "Lcom/example/wudaokou/wudaokou/guard/Policy$Decision$Kind;" (.ref u0)) (hO : Old Z n0 h0) (hE : Exa Z h0 a1 "com/example/wudaokou/wudaokou/guard/Policy$Decision") (hF1 : Fld Z h0 a1 "com/example/wudaokou/wudaokou/guard/Policy$Decision" "kind" "Lcom/example/wudaokou/wudaokou/guard/Policy$Decision$Kind;" (.ref u0)) (hF2 : Fld Z h0 a1 "com/example/wudaokou/wudaokou/guard/Policy$Decision" "minKm" "D" (.double d2)) (hF3 : Fld Z h0 a1 "com/example/wudaokou/wudaokou/guard/Policy$Decision" "maxKm" "D" (.double d3)) (hn2 : Jvm.Free.Fl.NoNaN64 d2) (hn3 : Jvm.Free.Fl.NoNaN64 d3) :
    MetFree l (⟨"com/example/wudaokou/wudaokou/guard/DecisionBlurPinLaw", "holds", "(Lcom/example/wudaokou/wudaokou/guard/Policy$Decision;DD)Z"⟩ : MethodName) (head1 (Jvm.Cond.code (⟨"com/example/wudaokou/wudaokou/guard/DecisionBlurPinLaw", "holds", "(Lcom/example/wudaokou/wudaokou/guard/Policy$Decision;DD)Z"⟩ : MethodName) method_4_code 5 (some .boolean) :: ws) ({ frames := 1, cells := 0, slots := 0, locals := 12 } : Room)) (fun a U => a = #[(.ref a1), (.double d2), (.double d3)] ∧ Z.Warmed39 U.vm ∧ U.heap = h0) (fun _ _ _ _ _ => True) (fun _ U o U' => ∃ v L, o = .returned v ∧ Q6 Z a1 d2 d3 u0 h0 n0 v U'.heap L ∧ FrameEnd U o U' L ({ frames := 1, cells := 0, slots := 0, locals := 12 } : Room).cells ({ frames := 1, cells := 0, slots := 0, locals := 12 } : Room).slots) := by
  refine MetFree.of_bodySF (plainFor_of_name own_pn_0) hisR ?_
  intro p e s m args below meth c s₁ Bd hml0 hP hK
  obtain ⟨rfl, hZ, hh⟩ := hP
  have hx := Bd.exec
  have hby := Bd.bytes
  have hml : c.maxLocals = 5 := hml0
  have hown : s.vm.findClass "com/example/wudaokou/wudaokou/guard/DecisionBlurPinLaw" = some m.cls := findClass_of_methodNamed Bd.named
  have hnm := (name_of_methodNamed Bd.named Bd.method).1
  have X0 : Stand p l e ({ frames := 1, cells := 0, slots := 0, locals := 12 } : Room) s m #[(.ref a1), (.double d2), (.double d3)] below meth c s₁ [] 0 0 := Stand.of_body Bd
  have e0 : s₁.heap = h0 := by rw [← hh, Bd.state]; rfl
  have N0 := Fr.nil n0
  have pre0 : ∀ t, Steps p.tables e below (s₁.setTop (mkF m 0 #[.val (.ref a1), .val (.double d2), .second, .val (.double d3), .second] [])) t → Steps p.tables e below (s₁.setTop (entryFrame m #[(.ref a1), (.double d2), (.double d3)] 5)) t := fun t k => castTop (ef_6 m a1 d2 d3) k
  obtain ⟨cq1, kq1, q1a, q1b, q1c⟩ := isOf hZ e0 hE
  obtain ⟨_, _, ⟨T1, L1, k1, n1⟩, -, X1, ⟨Lc1, hQ1, l1, y1, z1⟩, st1⟩ := X0.virtualBack hx (y := (⟨"com/example/wudaokou/wudaokou/guard/Policy$Decision", "kind", "()Lcom/example/wudaokou/wudaokou/guard/Policy$Decision$Kind;"⟩ : MethodName)) (z := (⟨"com/example/wudaokou/wudaokou/guard/Policy$Decision", "kind", "()Lcom/example/wudaokou/wudaokou/guard/Policy$Decision$Kind;"⟩ : MethodName)) hown (mvT hZ (own_k hw 34 rfl)) (mvT hZ (own_k hw 35 rfl)) (notFace_of_selects (args := #[]) (mvT hZ (own_k hw 37 rfl))) (mvT hZ (own_k hw 37 rfl)) (mvT hZ (own_k hw 36 rfl)) (by decide) (backOf (W := 0) (rm_kind l Z a0 hw [] a1 u0 h0 n0 Z0 hF1) hZ (own_k hw 38 rfl) (own_k hw 12 rfl) (by decide) (by decide)) q1a q1c (g := (mkF m 5 #[.val (.ref a1), .val (.double d2), .second, .val (.double d3), .second] [(.ref a1)])) rfl (by rw [hml]; rfl) (Steps.refl _) (argsL := []) (rest := []) (lenOf own_pd_1 rfl) rfl (by show 2 * 0 + _ ≤ _; exact Nat.le_of_eq rfl) (hb hby d6_5) (fun _ _ => ⟨rfl, e0, (by decide : 0 + 0 ≤ _), (by decide : 0 + 0 ≤ _)⟩)
  dsimp only [Pt.U, Pt.locs, Pt.cells, Pt.slots] at X1 l1 y1 z1 st1 hQ1
  subst l1 y1 z1
  obtain ⟨Nq1, eh1, hv1⟩ := hQ1
  have N1 := Fr.app N0 Nq1
  subst hv1
  obtain ⟨T2, X2, e2, st2⟩ := getS2 X1 hx hZ hown (host := "") (Or.inl (own_k hw 39 rfl)) Via.refl eh1 (hS.ext hO.2) (g := (mkF m 8 #[.val (.ref a1), .val (.double d2), .second, .val (.double d3), .second] [(.ref u0)])) rfl (hb hby d6_8)
  obtain ⟨cq3, kq3, q3a, q3b, q3c⟩ := isOf hZ e2 hE
  obtain ⟨_, _, ⟨T3, L3, k3, n3⟩, -, X3, ⟨Lc3, hQ3, l3, y3, z3⟩, st3⟩ := X2.virtualBack hx (y := (⟨"com/example/wudaokou/wudaokou/guard/Policy$Decision", "minKm", "()D"⟩ : MethodName)) (z := (⟨"com/example/wudaokou/wudaokou/guard/Policy$Decision", "minKm", "()D"⟩ : MethodName)) hown (mvT hZ (own_k hw 40 rfl)) (mvT hZ (own_k hw 41 rfl)) (notFace_of_selects (args := #[]) (mvT hZ (own_k hw 43 rfl))) (mvT hZ (own_k hw 43 rfl)) (mvT hZ (own_k hw 42 rfl)) (by decide) (backOf (W := 0) (rm_minKm l Z a0 hw [] a1 d2 h0 n0 Z0 hF2) hZ (own_k hw 44 rfl) (own_k hw 12 rfl) (by decide) (by decide)) q3a q3c (g := (mkF m 15 #[.val (.ref a1), .val (.double d2), .second, .val (.double d3), .second] [(.ref a1)])) rfl (by rw [hml]; rfl) (Steps.refl _) (argsL := []) (rest := []) (lenOf own_pd_2 rfl) rfl (by show 2 * 0 + _ ≤ _; exact Nat.le_of_eq rfl) (hb hby d6_15) (fun _ _ => ⟨rfl, e2, (by decide : 0 + 0 ≤ _), (by decide : 0 + 0 ≤ _)⟩)
  dsimp only [Pt.U, Pt.locs, Pt.cells, Pt.slots] at X3 l3 y3 z3 st3 hQ3
  subst l3 y3 z3
  obtain ⟨Nq3, eh3, hv3⟩ := hQ3
  have N3 := Fr.app N1 Nq3
  subst hv3
  obtain ⟨cq4, kq4, q4a, q4b, q4c⟩ := isOf hZ eh3 hE
  obtain ⟨_, _, ⟨T4, L4, k4, n4⟩, -, X4, ⟨Lc4, hQ4, l4, y4, z4⟩, st4⟩ := X3.virtualBack hx (y := (⟨"com/example/wudaokou/wudaokou/guard/Policy$Decision", "maxKm", "()D"⟩ : MethodName)) (z := (⟨"com/example/wudaokou/wudaokou/guard/Policy$Decision", "maxKm", "()D"⟩ : MethodName)) hown (mvT hZ (own_k hw 45 rfl)) (mvT hZ (own_k hw 46 rfl)) (notFace_of_selects (args := #[]) (mvT hZ (own_k hw 48 rfl))) (mvT hZ (own_k hw 48 rfl)) (mvT hZ (own_k hw 47 rfl)) (by decide) (backOf (W := 0) (rm_maxKm l Z a0 hw [] a1 d3 h0 n0 Z0 hF3) hZ (own_k hw 49 rfl) (own_k hw 12 rfl) (by decide) (by decide)) q4a q4c (g := (mkF m 24 #[.val (.ref a1), .val (.double d2), .second, .val (.double d3), .second] [(.ref a1)])) rfl (by rw [hml]; rfl) (Steps.refl _) (argsL := []) (rest := []) (lenOf own_pd_2 rfl) rfl (by show 2 * 0 + _ ≤ _; exact Nat.le_of_eq rfl) (hb hby d6_24) (fun _ _ => ⟨rfl, eh3, (by decide : 0 + 0 ≤ _), (by decide : 0 + 0 ≤ _)⟩)
  dsimp only [Pt.U, Pt.locs, Pt.cells, Pt.slots] at X4 l4 y4 z4 st4 hQ4
  subst l4 y4 z4
  obtain ⟨Nq4, eh4, hv4⟩ := hQ4
  have N4 := Fr.app N3 Nq4
  subst hv4
  obtain ⟨fs, hr, hrun, hended, hW, hsame⟩ := X4.leave (v := (some (.int (1 : Int32)))) (fun h => by rw [Bd.returns] at h; cases h)
  refine ⟨_, _, pre0 _ ?_, hrun, hended, _, _, rfl, ?_, ⟨_, rfl⟩, hW, hsame.mono (by decide) (by decide)⟩
  · show Steps p.tables e below (s₁.setTop (mkF m 0 #[.val (.ref a1), .val (.double d2), .second, .val (.double d3), .second] [])) _
    refine XS.aloadN X0.here hx rfl (hb hby d6_0) rfl rfl ?_
    show Steps p.tables e below (s₁.setTop (mkF m 1 #[.val (.ref a1), .val (.double d2), .second, .val (.double d3), .second] [(.ref a1)])) _
    refine XS.ifnullNo X0.here hx rfl (hb hby d6_1) rfl ?_
    show Steps p.tables e below (s₁.setTop (mkF m 4 #[.val (.ref a1), .val (.double d2), .second, .val (.double d3), .second] [])) _
    refine XS.aloadN X0.here hx rfl (hb hby d6_4) rfl rfl ?_
    show Steps p.tables e below (s₁.setTop (mkF m 5 #[.val (.ref a1), .val (.double d2), .second, .val (.double d3), .second] [(.ref a1)])) _
    refine st1.trans ?_
    show Steps p.tables e below (T1.setTop (mkF m 8 #[.val (.ref a1), .val (.double d2), .second, .val (.double d3), .second] [(.ref u0)])) _
    refine st2 _ ?_
    show Steps p.tables e below (T2.setTop (mkF m 11 #[.val (.ref a1), .val (.double d2), .second, .val (.double d3), .second] [(.ref u0), (.ref u0)])) _
    refine Jvm.RoadKit.acmp (g := (mkF m 11 #[.val (.ref a1), .val (.double d2), .second, .val (.double d3), .second] [(.ref u0), (.ref u0)])) X2 hx rfl rfl rfl (pc0 := 11) (pc' := 14) (same := true) rfl (hb hby d6_11) rfl (decide_eq_true rfl) (by decide) (by decide) ?_
    show Steps p.tables e below (T2.setTop (mkF m 14 #[.val (.ref a1), .val (.double d2), .second, .val (.double d3), .second] [])) _
    refine XS.aloadN X2.here hx rfl (hb hby d6_14) rfl rfl ?_
    show Steps p.tables e below (T2.setTop (mkF m 15 #[.val (.ref a1), .val (.double d2), .second, .val (.double d3), .second] [(.ref a1)])) _
    refine st3.trans ?_
    show Steps p.tables e below (T3.setTop (mkF m 18 #[.val (.ref a1), .val (.double d2), .second, .val (.double d3), .second] [(.double d2)])) _
    refine XS.dloadN X3.here hx rfl (hb hby d6_18) rfl ?_
    show Steps p.tables e below (T3.setTop (mkF m 19 #[.val (.ref a1), .val (.double d2), .second, .val (.double d3), .second] [(.double d2), (.double d2)])) _
    refine XS.dcmpS X3.here hx rfl (hb hby d6_19) rfl (v := (0 : Int32)) (dcmpV_self hn2 .l) ?_
    show Steps p.tables e below (T3.setTop (mkF m 20 #[.val (.ref a1), .val (.double d2), .second, .val (.double d3), .second] [(.int (0 : Int32))])) _
    refine XS.ifNo X3.here hx rfl (hb hby d6_20) rfl (by decide) ?_
    show Steps p.tables e below (T3.setTop (mkF m 23 #[.val (.ref a1), .val (.double d2), .second, .val (.double d3), .second] [])) _
    refine XS.aloadN X3.here hx rfl (hb hby d6_23) rfl rfl ?_
    show Steps p.tables e below (T3.setTop (mkF m 24 #[.val (.ref a1), .val (.double d2), .second, .val (.double d3), .second] [(.ref a1)])) _
    refine st4.trans ?_
    show Steps p.tables e below (T4.setTop (mkF m 27 #[.val (.ref a1), .val (.double d2), .second, .val (.double d3), .second] [(.double d3)])) _
    refine XS.dloadN X4.here hx rfl (hb hby d6_27) rfl ?_
    show Steps p.tables e below (T4.setTop (mkF m 28 #[.val (.ref a1), .val (.double d2), .second, .val (.double d3), .second] [(.double d3), (.double d3)])) _
    refine XS.dcmpS X4.here hx rfl (hb hby d6_28) rfl (v := (0 : Int32)) (dcmpV_self hn3 .l) ?_
    show Steps p.tables e below (T4.setTop (mkF m 29 #[.val (.ref a1), .val (.double d2), .second, .val (.double d3), .second] [(.int (0 : Int32))])) _
    refine XS.ifNo X4.here hx rfl (hb hby d6_29) rfl (by decide) ?_
    show Steps p.tables e below (T4.setTop (mkF m 32 #[.val (.ref a1), .val (.double d2), .second, .val (.double d3), .second] [])) _
    refine XS.iconst X4.here hx rfl (hb hby d6_32) ?_
    show Steps p.tables e below (T4.setTop (mkF m 33 #[.val (.ref a1), .val (.double d2), .second, .val (.double d3), .second] [(.int (1 : Int32))])) _
    refine XS.goto X4.here hx rfl (pc0 := 33) (pc' := 37) rfl (hb hby d6_33) (by decide) (by decide) ?_
    show Steps p.tables e below (T4.setTop (mkF m 37 #[.val (.ref a1), .val (.double d2), .second, .val (.double d3), .second] [(.int (1 : Int32))])) _
    exact retN X4 hx (t := .boolean) Bd.returns (by simp) (hb hby d6_37) hr
  · show Q6 Z a1 d2 d3 u0 h0 n0 _ T4.heap _
    rw [eh4]
    exact ⟨N4, rfl, rfl⟩
theorem own_pd_3 : parseMethodDescriptor "(I)I" = some ⟨[.int], some .int⟩ := by decide +kernel
theorem own_pd_4 : parseMethodDescriptor "(II)I" = some ⟨[.int, .int], some .int⟩ := by decide +kernel
theorem own_pd_5 : parseMethodDescriptor "(DD)Lcom/example/wudaokou/wudaokou/guard/Policy$Decision;" = some ⟨[.double, .double], some (.object "com/example/wudaokou/wudaokou/guard/Policy$Decision")⟩ := by decide +kernel
theorem own_pd_6 : parseMethodDescriptor "(Lcom/example/wudaokou/wudaokou/guard/Policy$Decision;DD)Z" = some ⟨[(.object "com/example/wudaokou/wudaokou/guard/Policy$Decision"), .double, .double], some .boolean⟩ := by decide +kernel
theorem ef_0 (m : MethodId) (p0 : Int32) (p1 : Int32) (p2 : Int32) (p3 : Int32) : entryFrame m #[(.int p0), (.int p1), (.int p2), (.int p3)] maxLocals = mkF m 0 #[.val (.int p0), .val (.int p1), .val (.int p2), .val (.int p3), .unset, .unset, .unset, .unset, .unset, .unset, .unset, .unset, .unset, .unset, .unset, .unset, .unset, .unset, .unset] [] := by first | (simp [entryFrame, mkF, argsToLocals, Value.category, maxLocals]; done) | rfl
def Q0 (Z : State) (p0 : Int32) (p1 : Int32) (p2 : Int32) (p3 : Int32) (u0 : Addr) (h0 : Heap) (n0 : Nat) (v : Option Value) (h : Heap) (L : List Loc) : Prop := Fr n0 L ∧ v = some (.int (1 : Int32))
set_option maxRecDepth 65536 in
set_option maxHeartbeats 40000000 in
theorem rm0 (l : Launch) (Z : State) (a0 : Array Value) (hw : ∀ d ∈ tables_1, d.before a0 Z = true) (ws : List Jvm.Cond) (p0 : Int32) (p1 : Int32) (p2 : Int32) (p3 : Int32) (u0 : Addr) (h0 : Heap) (n0 : Nat) (Z0 : n0 ≤ h0.size) (hS : Sta Z Z.heap "com/example/wudaokou/wudaokou/guard/Policy$Decision$Kind" "BLUR" "Lcom/example/wudaokou/wudaokou/guard/Policy$Decision$Kind;" (.ref u0)) (hO : Old Z n0 h0) :
    MetFree l x (head1 (Jvm.Cond.code x code maxLocals ret :: ws) room_1) (fun a U => a = #[(.int p0), (.int p1), (.int p2), (.int p3)] ∧ Z.Warmed39 U.vm ∧ U.heap = h0) (fun _ _ _ _ _ => True) (fun _ U o U' => ∃ v L, o = .returned v ∧ Q0 Z p0 p1 p2 p3 u0 h0 n0 v U'.heap L ∧ FrameEnd U o U' L 16 128) := by
  refine MetFree.of_bodySF (plainFor_of_name own_pn_0) hisR ?_
  intro p e s m args below meth c s₁ Bd hml0 hP hK
  obtain ⟨rfl, hZ, hh⟩ := hP
  have hx := Bd.exec
  have hby := Bd.bytes
  have hml : c.maxLocals = 19 := hml0
  have hown : s.vm.findClass "com/example/wudaokou/wudaokou/guard/DecisionBlurPinLaw" = some m.cls := findClass_of_methodNamed Bd.named
  have hnm := (name_of_methodNamed Bd.named Bd.method).1
  have X0 : Stand p l e room_1 s m #[(.int p0), (.int p1), (.int p2), (.int p3)] below meth c s₁ [] 0 0 := Stand.of_body Bd
  have e0 : s₁.heap = h0 := by rw [← hh, Bd.state]; rfl
  have N0 := Fr.nil n0
  have pre0 : ∀ t, Steps p.tables e below (s₁.setTop (mkF m 0 #[.val (.int p0), .val (.int p1), .val (.int p2), .val (.int p3), .unset, .unset, .unset, .unset, .unset, .unset, .unset, .unset, .unset, .unset, .unset, .unset, .unset, .unset, .unset] [])) t → Steps p.tables e below (s₁.setTop (entryFrame m #[(.int p0), (.int p1), (.int p2), (.int p3)] maxLocals)) t := fun t k => castTop (ef_0 m p0 p1 p2 p3) k
  obtain ⟨_, _, ⟨T1, L1, k1, n1⟩, -, X1, ⟨Lc1, hQ1, l1, y1, z1⟩, st1⟩ := Jvm.LawKit.callS X0 hx (y := (⟨"com/example/wudaokou/wudaokou/guard/DecisionBlurPinLaw", "low", "(I)I"⟩ : MethodName)) hown (mvT hZ (own_k hw 0 rfl)) (mvT hZ (own_k hw 1 rfl)) (mvT hZ (own_k hw 2 rfl)) (mvT hZ (own_k hw 3 rfl)) (by decide) (backOf (W := 0) (rmLow l Z a0 hw [] p0 h0 n0 Z0 ) hZ (own_k hw 3 rfl) (own_k hw 2 rfl) (by decide) (by decide)) (g := (mkF m 1 #[.val (.int p0), .val (.int p1), .val (.int p2), .val (.int p3), .unset, .unset, .unset, .unset, .unset, .unset, .unset, .unset, .unset, .unset, .unset, .unset, .unset, .unset, .unset] [(.int p0)])) rfl (by rw [hml]; rfl) (argsL := [(.int p0)]) (rest := []) (lenOf own_pd_3 rfl) rfl (by show 2 * 0 + _ ≤ _; exact Nat.le_of_eq rfl) (hb hby at_1) (fun _ _ => ⟨rfl, e0, (by decide : 0 + 0 ≤ _), (by decide : 0 + 0 ≤ _)⟩)
  dsimp only [Pt.U, Pt.locs, Pt.cells, Pt.slots] at X1 l1 y1 z1 st1 hQ1
  subst l1 y1 z1
  obtain ⟨Nq1, eh1, hv1⟩ := hQ1
  have N1 := Fr.app N0 Nq1
  subst hv1
  obtain ⟨_, _, ⟨T2, L2, k2, n2⟩, -, X2, ⟨Lc2, hQ2, l2, y2, z2⟩, st2⟩ := Jvm.LawKit.callS X1 hx (y := (⟨"com/example/wudaokou/wudaokou/guard/DecisionBlurPinLaw", "high", "(II)I"⟩ : MethodName)) hown (mvT hZ (own_k hw 6 rfl)) (mvT hZ (own_k hw 7 rfl)) (mvT hZ (own_k hw 2 rfl)) (mvT hZ (own_k hw 8 rfl)) (by decide) (backOf (W := 0) (rmHigh l Z a0 hw [] ((p0 &&& (2147483647 : Int32)) % (500001 : Int32)) p1 h0 n0 Z0 (own_low p0)) hZ (own_k hw 8 rfl) (own_k hw 2 rfl) (by decide) (by decide)) (g := (mkF m 9 #[.val (.int p0), .val (.int p1), .val (.int p2), .val (.int p3), .val (.int ((p0 &&& (2147483647 : Int32)) % (500001 : Int32))), .unset, .unset, .unset, .unset, .unset, .unset, .unset, .unset, .unset, .unset, .unset, .unset, .unset, .unset] [(.int p1), (.int ((p0 &&& (2147483647 : Int32)) % (500001 : Int32)))])) rfl (by rw [hml]; rfl) (argsL := [(.int ((p0 &&& (2147483647 : Int32)) % (500001 : Int32))), (.int p1)]) (rest := []) (lenOf own_pd_4 rfl) rfl (by show 2 * 0 + _ ≤ _; exact Nat.le_of_eq rfl) (hb hby at_9) (fun _ _ => ⟨rfl, eh1, (by decide : 0 + 0 ≤ _), (by decide : 0 + 0 ≤ _)⟩)
  dsimp only [Pt.U, Pt.locs, Pt.cells, Pt.slots] at X2 l2 y2 z2 st2 hQ2
  subst l2 y2 z2
  obtain ⟨Nq2, eh2, hv2⟩ := hQ2
  have N2 := Fr.app N1 Nq2
  subst hv2
  obtain ⟨_, _, ⟨T3, L3, k3, n3⟩, -, X3, ⟨Lc3, hQ3, l3, y3, z3⟩, st3⟩ := Jvm.LawKit.callS X2 hx (y := (⟨"com/example/wudaokou/wudaokou/guard/DecisionBlurPinLaw", "low", "(I)I"⟩ : MethodName)) hown (mvT hZ (own_k hw 0 rfl)) (mvT hZ (own_k hw 1 rfl)) (mvT hZ (own_k hw 2 rfl)) (mvT hZ (own_k hw 3 rfl)) (by decide) (backOf (W := 0) (rmLow l Z a0 hw [] p2 h0 n0 Z0 ) hZ (own_k hw 3 rfl) (own_k hw 2 rfl) (by decide) (by decide)) (g := (mkF m 15 #[.val (.int p0), .val (.int p1), .val (.int p2), .val (.int p3), .val (.int ((p0 &&& (2147483647 : Int32)) % (500001 : Int32))), .val (.int (((p0 &&& (2147483647 : Int32)) % (500001 : Int32)) + ((p1 &&& (2147483647 : Int32)) % ((500001 : Int32) - ((p0 &&& (2147483647 : Int32)) % (500001 : Int32)))))), .unset, .unset, .unset, .unset, .unset, .unset, .unset, .unset, .unset, .unset, .unset, .unset, .unset] [(.int p2)])) rfl (by rw [hml]; rfl) (argsL := [(.int p2)]) (rest := []) (lenOf own_pd_3 rfl) rfl (by show 2 * 0 + _ ≤ _; exact Nat.le_of_eq rfl) (hb hby at_15) (fun _ _ => ⟨rfl, eh2, (by decide : 0 + 0 ≤ _), (by decide : 0 + 0 ≤ _)⟩)
  dsimp only [Pt.U, Pt.locs, Pt.cells, Pt.slots] at X3 l3 y3 z3 st3 hQ3
  subst l3 y3 z3
  obtain ⟨Nq3, eh3, hv3⟩ := hQ3
  have N3 := Fr.app N2 Nq3
  subst hv3
  obtain ⟨_, _, ⟨T4, L4, k4, n4⟩, -, X4, ⟨Lc4, hQ4, l4, y4, z4⟩, st4⟩ := Jvm.LawKit.callS X3 hx (y := (⟨"com/example/wudaokou/wudaokou/guard/DecisionBlurPinLaw", "high", "(II)I"⟩ : MethodName)) hown (mvT hZ (own_k hw 6 rfl)) (mvT hZ (own_k hw 7 rfl)) (mvT hZ (own_k hw 2 rfl)) (mvT hZ (own_k hw 8 rfl)) (by decide) (backOf (W := 0) (rmHigh l Z a0 hw [] ((p2 &&& (2147483647 : Int32)) % (500001 : Int32)) p3 h0 n0 Z0 (own_low p2)) hZ (own_k hw 8 rfl) (own_k hw 2 rfl) (by decide) (by decide)) (g := (mkF m 23 #[.val (.int p0), .val (.int p1), .val (.int p2), .val (.int p3), .val (.int ((p0 &&& (2147483647 : Int32)) % (500001 : Int32))), .val (.int (((p0 &&& (2147483647 : Int32)) % (500001 : Int32)) + ((p1 &&& (2147483647 : Int32)) % ((500001 : Int32) - ((p0 &&& (2147483647 : Int32)) % (500001 : Int32)))))), .val (.int ((p2 &&& (2147483647 : Int32)) % (500001 : Int32))), .unset, .unset, .unset, .unset, .unset, .unset, .unset, .unset, .unset, .unset, .unset, .unset] [(.int p3), (.int ((p2 &&& (2147483647 : Int32)) % (500001 : Int32)))])) rfl (by rw [hml]; rfl) (argsL := [(.int ((p2 &&& (2147483647 : Int32)) % (500001 : Int32))), (.int p3)]) (rest := []) (lenOf own_pd_4 rfl) rfl (by show 2 * 0 + _ ≤ _; exact Nat.le_of_eq rfl) (hb hby at_23) (fun _ _ => ⟨rfl, eh3, (by decide : 0 + 0 ≤ _), (by decide : 0 + 0 ≤ _)⟩)
  dsimp only [Pt.U, Pt.locs, Pt.cells, Pt.slots] at X4 l4 y4 z4 st4 hQ4
  subst l4 y4 z4
  obtain ⟨Nq4, eh4, hv4⟩ := hQ4
  have N4 := Fr.app N3 Nq4
  subst hv4
  obtain ⟨_, _, ⟨T5, L5, k5, n5⟩, -, X5, ⟨Lc5, hQ5, l5, y5, z5⟩, st5⟩ := Jvm.LawKit.callS X4 hx (y := (⟨"com/example/wudaokou/wudaokou/guard/Policy$Decision", "blur", "(DD)Lcom/example/wudaokou/wudaokou/guard/Policy$Decision;"⟩ : MethodName)) hown (mvT hZ (own_k hw 10 rfl)) (mvT hZ (own_k hw 11 rfl)) (mvT hZ (own_k hw 12 rfl)) (mvT hZ (own_k hw 13 rfl)) (by decide) (backOf (W := 0) (rmBlur l Z a0 hw [] (FP.ddiv (FP.i2d ((p0 &&& (2147483647 : Int32)) % (500001 : Int32))) (4652007308841189376 : UInt64)) (FP.ddiv (FP.i2d (((p0 &&& (2147483647 : Int32)) % (500001 : Int32)) + ((p1 &&& (2147483647 : Int32)) % ((500001 : Int32) - ((p0 &&& (2147483647 : Int32)) % (500001 : Int32)))))) (4652007308841189376 : UInt64)) u0 h0 n0 Z0 hS hO) hZ (own_k hw 13 rfl) (own_k hw 12 rfl) (by decide) (by decide)) (g := (mkF m 68 #[.val (.int p0), .val (.int p1), .val (.int p2), .val (.int p3), .val (.int ((p0 &&& (2147483647 : Int32)) % (500001 : Int32))), .val (.int (((p0 &&& (2147483647 : Int32)) % (500001 : Int32)) + ((p1 &&& (2147483647 : Int32)) % ((500001 : Int32) - ((p0 &&& (2147483647 : Int32)) % (500001 : Int32)))))), .val (.int ((p2 &&& (2147483647 : Int32)) % (500001 : Int32))), .val (.int (((p2 &&& (2147483647 : Int32)) % (500001 : Int32)) + ((p3 &&& (2147483647 : Int32)) % ((500001 : Int32) - ((p2 &&& (2147483647 : Int32)) % (500001 : Int32)))))), .val (.double (FP.ddiv (FP.i2d ((p0 &&& (2147483647 : Int32)) % (500001 : Int32))) (4652007308841189376 : UInt64))), .second, .val (.double (FP.ddiv (FP.i2d (((p0 &&& (2147483647 : Int32)) % (500001 : Int32)) + ((p1 &&& (2147483647 : Int32)) % ((500001 : Int32) - ((p0 &&& (2147483647 : Int32)) % (500001 : Int32)))))) (4652007308841189376 : UInt64))), .second, .val (.double (FP.ddiv (FP.i2d ((p2 &&& (2147483647 : Int32)) % (500001 : Int32))) (4652007308841189376 : UInt64))), .second, .val (.double (FP.ddiv (FP.i2d (((p2 &&& (2147483647 : Int32)) % (500001 : Int32)) + ((p3 &&& (2147483647 : Int32)) % ((500001 : Int32) - ((p2 &&& (2147483647 : Int32)) % (500001 : Int32)))))) (4652007308841189376 : UInt64))), .second, .unset, .unset, .unset] [(.double (FP.ddiv (FP.i2d (((p0 &&& (2147483647 : Int32)) % (500001 : Int32)) + ((p1 &&& (2147483647 : Int32)) % ((500001 : Int32) - ((p0 &&& (2147483647 : Int32)) % (500001 : Int32)))))) (4652007308841189376 : UInt64))), (.double (FP.ddiv (FP.i2d ((p0 &&& (2147483647 : Int32)) % (500001 : Int32))) (4652007308841189376 : UInt64)))])) rfl (by rw [hml]; rfl) (argsL := [(.double (FP.ddiv (FP.i2d ((p0 &&& (2147483647 : Int32)) % (500001 : Int32))) (4652007308841189376 : UInt64))), (.double (FP.ddiv (FP.i2d (((p0 &&& (2147483647 : Int32)) % (500001 : Int32)) + ((p1 &&& (2147483647 : Int32)) % ((500001 : Int32) - ((p0 &&& (2147483647 : Int32)) % (500001 : Int32)))))) (4652007308841189376 : UInt64)))]) (rest := []) (lenOf own_pd_5 rfl) rfl (by show 2 * 0 + _ ≤ _; exact Nat.le_of_eq rfl) (hb hby at_68) (fun _ _ => ⟨rfl, eh4, (by decide : 0 + 1 ≤ _), (by decide : 0 + 3 ≤ _)⟩)
  dsimp only [Pt.U, Pt.locs, Pt.cells, Pt.slots] at X5 l5 y5 z5 st5 hQ5
  subst l5 y5 z5
  obtain ⟨bb_5, Nq5, Kq5, p5_0, p5_1, p5_2, p5_3, p5_4, hv5⟩ := hQ5
  have N5 := Fr.app N4 Nq5
  have g_bb_5 : n0 ≤ bb_5 := Nat.le_trans Z0 p5_0
  subst hv5
  have f7 : Old Z n0 T5.heap := (hO.keep Kq5 all0)
  have f8 : n0 ≤ T5.heap.size := (Nat.le_trans Z0 Kq5.1)
  obtain ⟨_, _, ⟨T6, L6, k6, n6⟩, -, X6, ⟨Lc6, hQ6, l6, y6, z6⟩, st6⟩ := Jvm.LawKit.callS X5 hx (y := (⟨"com/example/wudaokou/wudaokou/guard/DecisionBlurPinLaw", "holds", "(Lcom/example/wudaokou/wudaokou/guard/Policy$Decision;DD)Z"⟩ : MethodName)) hown (mvT hZ (own_k hw 31 rfl)) (mvT hZ (own_k hw 32 rfl)) (mvT hZ (own_k hw 2 rfl)) (mvT hZ (own_k hw 33 rfl)) (by decide) (backOf (W := 0) (rmHolds l Z a0 hw [] bb_5 (FP.ddiv (FP.i2d ((p0 &&& (2147483647 : Int32)) % (500001 : Int32))) (4652007308841189376 : UInt64)) (FP.ddiv (FP.i2d (((p0 &&& (2147483647 : Int32)) % (500001 : Int32)) + ((p1 &&& (2147483647 : Int32)) % ((500001 : Int32) - ((p0 &&& (2147483647 : Int32)) % (500001 : Int32)))))) (4652007308841189376 : UInt64)) u0 T5.heap n0 f8 hS f7 p5_1 p5_2 p5_3 p5_4 (own_nn _) (own_nn _)) hZ (own_k hw 33 rfl) (own_k hw 2 rfl) (by decide) (by decide)) (g := (mkF m 79 #[.val (.int p0), .val (.int p1), .val (.int p2), .val (.int p3), .val (.int ((p0 &&& (2147483647 : Int32)) % (500001 : Int32))), .val (.int (((p0 &&& (2147483647 : Int32)) % (500001 : Int32)) + ((p1 &&& (2147483647 : Int32)) % ((500001 : Int32) - ((p0 &&& (2147483647 : Int32)) % (500001 : Int32)))))), .val (.int ((p2 &&& (2147483647 : Int32)) % (500001 : Int32))), .val (.int (((p2 &&& (2147483647 : Int32)) % (500001 : Int32)) + ((p3 &&& (2147483647 : Int32)) % ((500001 : Int32) - ((p2 &&& (2147483647 : Int32)) % (500001 : Int32)))))), .val (.double (FP.ddiv (FP.i2d ((p0 &&& (2147483647 : Int32)) % (500001 : Int32))) (4652007308841189376 : UInt64))), .second, .val (.double (FP.ddiv (FP.i2d (((p0 &&& (2147483647 : Int32)) % (500001 : Int32)) + ((p1 &&& (2147483647 : Int32)) % ((500001 : Int32) - ((p0 &&& (2147483647 : Int32)) % (500001 : Int32)))))) (4652007308841189376 : UInt64))), .second, .val (.double (FP.ddiv (FP.i2d ((p2 &&& (2147483647 : Int32)) % (500001 : Int32))) (4652007308841189376 : UInt64))), .second, .val (.double (FP.ddiv (FP.i2d (((p2 &&& (2147483647 : Int32)) % (500001 : Int32)) + ((p3 &&& (2147483647 : Int32)) % ((500001 : Int32) - ((p2 &&& (2147483647 : Int32)) % (500001 : Int32)))))) (4652007308841189376 : UInt64))), .second, .val (.ref bb_5), .unset, .unset] [(.double (FP.ddiv (FP.i2d (((p0 &&& (2147483647 : Int32)) % (500001 : Int32)) + ((p1 &&& (2147483647 : Int32)) % ((500001 : Int32) - ((p0 &&& (2147483647 : Int32)) % (500001 : Int32)))))) (4652007308841189376 : UInt64))), (.double (FP.ddiv (FP.i2d ((p0 &&& (2147483647 : Int32)) % (500001 : Int32))) (4652007308841189376 : UInt64))), (.ref bb_5)])) rfl (by rw [hml]; rfl) (argsL := [(.ref bb_5), (.double (FP.ddiv (FP.i2d ((p0 &&& (2147483647 : Int32)) % (500001 : Int32))) (4652007308841189376 : UInt64))), (.double (FP.ddiv (FP.i2d (((p0 &&& (2147483647 : Int32)) % (500001 : Int32)) + ((p1 &&& (2147483647 : Int32)) % ((500001 : Int32) - ((p0 &&& (2147483647 : Int32)) % (500001 : Int32)))))) (4652007308841189376 : UInt64)))]) (rest := []) (lenOf own_pd_6 rfl) rfl (by show 2 * 0 + _ ≤ _; exact Nat.le_of_eq rfl) (hb hby at_79) (fun _ _ => ⟨rfl, rfl, (by decide : 1 + 0 ≤ _), (by decide : 3 + 0 ≤ _)⟩)
  dsimp only [Pt.U, Pt.locs, Pt.cells, Pt.slots] at X6 l6 y6 z6 st6 hQ6
  subst l6 y6 z6
  obtain ⟨Nq6, eh6, hv6⟩ := hQ6
  have N6 := Fr.app N5 Nq6
  subst hv6
  obtain ⟨_, _, ⟨T9, L9, k9, n9⟩, -, X9, ⟨Lc9, hQ9, l9, y9, z9⟩, st9⟩ := Jvm.LawKit.callS X6 hx (y := (⟨"com/example/wudaokou/wudaokou/guard/Policy$Decision", "blur", "(DD)Lcom/example/wudaokou/wudaokou/guard/Policy$Decision;"⟩ : MethodName)) hown (mvT hZ (own_k hw 10 rfl)) (mvT hZ (own_k hw 11 rfl)) (mvT hZ (own_k hw 12 rfl)) (mvT hZ (own_k hw 13 rfl)) (by decide) (backOf (W := 0) (rmBlur l Z a0 hw [] (FP.ddiv (FP.i2d ((p2 &&& (2147483647 : Int32)) % (500001 : Int32))) (4652007308841189376 : UInt64)) (FP.ddiv (FP.i2d (((p2 &&& (2147483647 : Int32)) % (500001 : Int32)) + ((p3 &&& (2147483647 : Int32)) % ((500001 : Int32) - ((p2 &&& (2147483647 : Int32)) % (500001 : Int32)))))) (4652007308841189376 : UInt64)) u0 T5.heap n0 f8 hS f7) hZ (own_k hw 13 rfl) (own_k hw 12 rfl) (by decide) (by decide)) (g := (mkF m 88 #[.val (.int p0), .val (.int p1), .val (.int p2), .val (.int p3), .val (.int ((p0 &&& (2147483647 : Int32)) % (500001 : Int32))), .val (.int (((p0 &&& (2147483647 : Int32)) % (500001 : Int32)) + ((p1 &&& (2147483647 : Int32)) % ((500001 : Int32) - ((p0 &&& (2147483647 : Int32)) % (500001 : Int32)))))), .val (.int ((p2 &&& (2147483647 : Int32)) % (500001 : Int32))), .val (.int (((p2 &&& (2147483647 : Int32)) % (500001 : Int32)) + ((p3 &&& (2147483647 : Int32)) % ((500001 : Int32) - ((p2 &&& (2147483647 : Int32)) % (500001 : Int32)))))), .val (.double (FP.ddiv (FP.i2d ((p0 &&& (2147483647 : Int32)) % (500001 : Int32))) (4652007308841189376 : UInt64))), .second, .val (.double (FP.ddiv (FP.i2d (((p0 &&& (2147483647 : Int32)) % (500001 : Int32)) + ((p1 &&& (2147483647 : Int32)) % ((500001 : Int32) - ((p0 &&& (2147483647 : Int32)) % (500001 : Int32)))))) (4652007308841189376 : UInt64))), .second, .val (.double (FP.ddiv (FP.i2d ((p2 &&& (2147483647 : Int32)) % (500001 : Int32))) (4652007308841189376 : UInt64))), .second, .val (.double (FP.ddiv (FP.i2d (((p2 &&& (2147483647 : Int32)) % (500001 : Int32)) + ((p3 &&& (2147483647 : Int32)) % ((500001 : Int32) - ((p2 &&& (2147483647 : Int32)) % (500001 : Int32)))))) (4652007308841189376 : UInt64))), .second, .val (.ref bb_5), .val (.int (1 : Int32)), .unset] [(.double (FP.ddiv (FP.i2d (((p2 &&& (2147483647 : Int32)) % (500001 : Int32)) + ((p3 &&& (2147483647 : Int32)) % ((500001 : Int32) - ((p2 &&& (2147483647 : Int32)) % (500001 : Int32)))))) (4652007308841189376 : UInt64))), (.double (FP.ddiv (FP.i2d ((p2 &&& (2147483647 : Int32)) % (500001 : Int32))) (4652007308841189376 : UInt64)))])) rfl (by rw [hml]; rfl) (argsL := [(.double (FP.ddiv (FP.i2d ((p2 &&& (2147483647 : Int32)) % (500001 : Int32))) (4652007308841189376 : UInt64))), (.double (FP.ddiv (FP.i2d (((p2 &&& (2147483647 : Int32)) % (500001 : Int32)) + ((p3 &&& (2147483647 : Int32)) % ((500001 : Int32) - ((p2 &&& (2147483647 : Int32)) % (500001 : Int32)))))) (4652007308841189376 : UInt64)))]) (rest := []) (lenOf own_pd_5 rfl) rfl (by show 2 * 0 + _ ≤ _; exact Nat.le_of_eq rfl) (hb hby at_88) (fun _ _ => ⟨rfl, eh6, (by decide : 1 + 1 ≤ _), (by decide : 3 + 3 ≤ _)⟩)
  dsimp only [Pt.U, Pt.locs, Pt.cells, Pt.slots] at X9 l9 y9 z9 st9 hQ9
  subst l9 y9 z9
  obtain ⟨bb_9, Nq9, Kq9, p9_0, p9_1, p9_2, p9_3, p9_4, hv9⟩ := hQ9
  have N9 := Fr.app N6 Nq9
  have g_bb_9 : n0 ≤ bb_9 := Nat.le_trans f8 p9_0
  subst hv9
  have f11 : Old Z n0 T9.heap := (f7.keep Kq9 all0)
  have f12 : n0 ≤ T9.heap.size := (Nat.le_trans f8 Kq9.1)
  obtain ⟨_, _, ⟨T10, L10, k10, n10⟩, -, X10, ⟨Lc10, hQ10, l10, y10, z10⟩, st10⟩ := Jvm.LawKit.callS X9 hx (y := (⟨"com/example/wudaokou/wudaokou/guard/DecisionBlurPinLaw", "holds", "(Lcom/example/wudaokou/wudaokou/guard/Policy$Decision;DD)Z"⟩ : MethodName)) hown (mvT hZ (own_k hw 31 rfl)) (mvT hZ (own_k hw 32 rfl)) (mvT hZ (own_k hw 2 rfl)) (mvT hZ (own_k hw 33 rfl)) (by decide) (backOf (W := 0) (rmHolds l Z a0 hw [] bb_9 (FP.ddiv (FP.i2d ((p2 &&& (2147483647 : Int32)) % (500001 : Int32))) (4652007308841189376 : UInt64)) (FP.ddiv (FP.i2d (((p2 &&& (2147483647 : Int32)) % (500001 : Int32)) + ((p3 &&& (2147483647 : Int32)) % ((500001 : Int32) - ((p2 &&& (2147483647 : Int32)) % (500001 : Int32)))))) (4652007308841189376 : UInt64)) u0 T9.heap n0 f12 hS f11 p9_1 p9_2 p9_3 p9_4 (own_nn _) (own_nn _)) hZ (own_k hw 33 rfl) (own_k hw 2 rfl) (by decide) (by decide)) (g := (mkF m 104 #[.val (.int p0), .val (.int p1), .val (.int p2), .val (.int p3), .val (.int ((p0 &&& (2147483647 : Int32)) % (500001 : Int32))), .val (.int (((p0 &&& (2147483647 : Int32)) % (500001 : Int32)) + ((p1 &&& (2147483647 : Int32)) % ((500001 : Int32) - ((p0 &&& (2147483647 : Int32)) % (500001 : Int32)))))), .val (.int ((p2 &&& (2147483647 : Int32)) % (500001 : Int32))), .val (.int (((p2 &&& (2147483647 : Int32)) % (500001 : Int32)) + ((p3 &&& (2147483647 : Int32)) % ((500001 : Int32) - ((p2 &&& (2147483647 : Int32)) % (500001 : Int32)))))), .val (.double (FP.ddiv (FP.i2d ((p0 &&& (2147483647 : Int32)) % (500001 : Int32))) (4652007308841189376 : UInt64))), .second, .val (.double (FP.ddiv (FP.i2d (((p0 &&& (2147483647 : Int32)) % (500001 : Int32)) + ((p1 &&& (2147483647 : Int32)) % ((500001 : Int32) - ((p0 &&& (2147483647 : Int32)) % (500001 : Int32)))))) (4652007308841189376 : UInt64))), .second, .val (.double (FP.ddiv (FP.i2d ((p2 &&& (2147483647 : Int32)) % (500001 : Int32))) (4652007308841189376 : UInt64))), .second, .val (.double (FP.ddiv (FP.i2d (((p2 &&& (2147483647 : Int32)) % (500001 : Int32)) + ((p3 &&& (2147483647 : Int32)) % ((500001 : Int32) - ((p2 &&& (2147483647 : Int32)) % (500001 : Int32)))))) (4652007308841189376 : UInt64))), .second, .val (.ref bb_5), .val (.int (1 : Int32)), .val (.ref bb_9)] [(.double (FP.ddiv (FP.i2d (((p2 &&& (2147483647 : Int32)) % (500001 : Int32)) + ((p3 &&& (2147483647 : Int32)) % ((500001 : Int32) - ((p2 &&& (2147483647 : Int32)) % (500001 : Int32)))))) (4652007308841189376 : UInt64))), (.double (FP.ddiv (FP.i2d ((p2 &&& (2147483647 : Int32)) % (500001 : Int32))) (4652007308841189376 : UInt64))), (.ref bb_9)])) rfl (by rw [hml]; rfl) (argsL := [(.ref bb_9), (.double (FP.ddiv (FP.i2d ((p2 &&& (2147483647 : Int32)) % (500001 : Int32))) (4652007308841189376 : UInt64))), (.double (FP.ddiv (FP.i2d (((p2 &&& (2147483647 : Int32)) % (500001 : Int32)) + ((p3 &&& (2147483647 : Int32)) % ((500001 : Int32) - ((p2 &&& (2147483647 : Int32)) % (500001 : Int32)))))) (4652007308841189376 : UInt64)))]) (rest := []) (lenOf own_pd_6 rfl) rfl (by show 2 * 0 + _ ≤ _; exact Nat.le_of_eq rfl) (hb hby at_104) (fun _ _ => ⟨rfl, rfl, (by decide : 2 + 0 ≤ _), (by decide : 6 + 0 ≤ _)⟩)
  dsimp only [Pt.U, Pt.locs, Pt.cells, Pt.slots] at X10 l10 y10 z10 st10 hQ10
  subst l10 y10 z10
  obtain ⟨Nq10, eh10, hv10⟩ := hQ10
  have N10 := Fr.app N9 Nq10
  subst hv10
  have f14 : Exa Z T9.heap bb_5 "com/example/wudaokou/wudaokou/guard/Policy$Decision" := (p5_1.keep Kq9)
  have f15 : Fld Z T9.heap bb_5 "com/example/wudaokou/wudaokou/guard/Policy$Decision" "kind" "Lcom/example/wudaokou/wudaokou/guard/Policy$Decision$Kind;" (.ref u0) := (p5_2.keep Kq9 nin0)
  have f16 : Fld Z T9.heap bb_5 "com/example/wudaokou/wudaokou/guard/Policy$Decision" "minKm" "D" (.double (FP.ddiv (FP.i2d ((p0 &&& (2147483647 : Int32)) % (500001 : Int32))) (4652007308841189376 : UInt64))) := (p5_3.keep Kq9 nin0)
  have f17 : Fld Z T9.heap bb_5 "com/example/wudaokou/wudaokou/guard/Policy$Decision" "maxKm" "D" (.double (FP.ddiv (FP.i2d (((p0 &&& (2147483647 : Int32)) % (500001 : Int32)) + ((p1 &&& (2147483647 : Int32)) % ((500001 : Int32) - ((p0 &&& (2147483647 : Int32)) % (500001 : Int32)))))) (4652007308841189376 : UInt64))) := (p5_4.keep Kq9 nin0)
  obtain ⟨_, _, ⟨T13, L13, k13, n13⟩, -, X13, ⟨Lc13, hQ13, l13, y13, z13⟩, st13⟩ := Jvm.LawKit.callS X10 hx (y := (⟨"com/example/wudaokou/wudaokou/guard/DecisionBlurPinLaw", "holds", "(Lcom/example/wudaokou/wudaokou/guard/Policy$Decision;DD)Z"⟩ : MethodName)) hown (mvT hZ (own_k hw 31 rfl)) (mvT hZ (own_k hw 32 rfl)) (mvT hZ (own_k hw 2 rfl)) (mvT hZ (own_k hw 33 rfl)) (by decide) (backOf (W := 0) (rmHolds l Z a0 hw [] bb_5 (FP.ddiv (FP.i2d ((p0 &&& (2147483647 : Int32)) % (500001 : Int32))) (4652007308841189376 : UInt64)) (FP.ddiv (FP.i2d (((p0 &&& (2147483647 : Int32)) % (500001 : Int32)) + ((p1 &&& (2147483647 : Int32)) % ((500001 : Int32) - ((p0 &&& (2147483647 : Int32)) % (500001 : Int32)))))) (4652007308841189376 : UInt64)) u0 T9.heap n0 f12 hS f11 f14 f15 f16 f17 (own_nn _) (own_nn _)) hZ (own_k hw 33 rfl) (own_k hw 2 rfl) (by decide) (by decide)) (g := (mkF m 116 #[.val (.int p0), .val (.int p1), .val (.int p2), .val (.int p3), .val (.int ((p0 &&& (2147483647 : Int32)) % (500001 : Int32))), .val (.int (((p0 &&& (2147483647 : Int32)) % (500001 : Int32)) + ((p1 &&& (2147483647 : Int32)) % ((500001 : Int32) - ((p0 &&& (2147483647 : Int32)) % (500001 : Int32)))))), .val (.int ((p2 &&& (2147483647 : Int32)) % (500001 : Int32))), .val (.int (((p2 &&& (2147483647 : Int32)) % (500001 : Int32)) + ((p3 &&& (2147483647 : Int32)) % ((500001 : Int32) - ((p2 &&& (2147483647 : Int32)) % (500001 : Int32)))))), .val (.double (FP.ddiv (FP.i2d ((p0 &&& (2147483647 : Int32)) % (500001 : Int32))) (4652007308841189376 : UInt64))), .second, .val (.double (FP.ddiv (FP.i2d (((p0 &&& (2147483647 : Int32)) % (500001 : Int32)) + ((p1 &&& (2147483647 : Int32)) % ((500001 : Int32) - ((p0 &&& (2147483647 : Int32)) % (500001 : Int32)))))) (4652007308841189376 : UInt64))), .second, .val (.double (FP.ddiv (FP.i2d ((p2 &&& (2147483647 : Int32)) % (500001 : Int32))) (4652007308841189376 : UInt64))), .second, .val (.double (FP.ddiv (FP.i2d (((p2 &&& (2147483647 : Int32)) % (500001 : Int32)) + ((p3 &&& (2147483647 : Int32)) % ((500001 : Int32) - ((p2 &&& (2147483647 : Int32)) % (500001 : Int32)))))) (4652007308841189376 : UInt64))), .second, .val (.ref bb_5), .val (.int (1 : Int32)), .val (.ref bb_9)] [(.double (FP.ddiv (FP.i2d (((p0 &&& (2147483647 : Int32)) % (500001 : Int32)) + ((p1 &&& (2147483647 : Int32)) % ((500001 : Int32) - ((p0 &&& (2147483647 : Int32)) % (500001 : Int32)))))) (4652007308841189376 : UInt64))), (.double (FP.ddiv (FP.i2d ((p0 &&& (2147483647 : Int32)) % (500001 : Int32))) (4652007308841189376 : UInt64))), (.ref bb_5)])) rfl (by rw [hml]; rfl) (argsL := [(.ref bb_5), (.double (FP.ddiv (FP.i2d ((p0 &&& (2147483647 : Int32)) % (500001 : Int32))) (4652007308841189376 : UInt64))), (.double (FP.ddiv (FP.i2d (((p0 &&& (2147483647 : Int32)) % (500001 : Int32)) + ((p1 &&& (2147483647 : Int32)) % ((500001 : Int32) - ((p0 &&& (2147483647 : Int32)) % (500001 : Int32)))))) (4652007308841189376 : UInt64)))]) (rest := []) (lenOf own_pd_6 rfl) rfl (by show 2 * 0 + _ ≤ _; exact Nat.le_of_eq rfl) (hb hby at_116) (fun _ _ => ⟨rfl, eh10, (by decide : 2 + 0 ≤ _), (by decide : 6 + 0 ≤ _)⟩)
  dsimp only [Pt.U, Pt.locs, Pt.cells, Pt.slots] at X13 l13 y13 z13 st13 hQ13
  subst l13 y13 z13
  obtain ⟨Nq13, eh13, hv13⟩ := hQ13
  have N13 := Fr.app N10 Nq13
  subst hv13
  obtain ⟨fs, hr, hrun, hended, hW, hsame⟩ := X13.leave (v := (some (.int (1 : Int32)))) (fun h => by rw [Bd.returns] at h; cases h)
  refine ⟨_, _, pre0 _ ?_, hrun, hended, _, _, rfl, ?_, ⟨_, rfl⟩, hW, hsame.mono (by decide) (by decide)⟩
  · show Steps p.tables e below (s₁.setTop (mkF m 0 #[.val (.int p0), .val (.int p1), .val (.int p2), .val (.int p3), .unset, .unset, .unset, .unset, .unset, .unset, .unset, .unset, .unset, .unset, .unset, .unset, .unset, .unset, .unset] [])) _
    refine XS.iloadN X0.here hx rfl (hb hby at_0) rfl ?_
    show Steps p.tables e below (s₁.setTop (mkF m 1 #[.val (.int p0), .val (.int p1), .val (.int p2), .val (.int p3), .unset, .unset, .unset, .unset, .unset, .unset, .unset, .unset, .unset, .unset, .unset, .unset, .unset, .unset, .unset] [(.int p0)])) _
    refine st1 _ ?_
    show Steps p.tables e below (T1.setTop (mkF m 4 #[.val (.int p0), .val (.int p1), .val (.int p2), .val (.int p3), .unset, .unset, .unset, .unset, .unset, .unset, .unset, .unset, .unset, .unset, .unset, .unset, .unset, .unset, .unset] [(.int ((p0 &&& (2147483647 : Int32)) % (500001 : Int32)))])) _
    refine XS.istore X1.here hx rfl (hb hby at_4) rfl (l' := #[.val (.int p0), .val (.int p1), .val (.int p2), .val (.int p3), .val (.int ((p0 &&& (2147483647 : Int32)) % (500001 : Int32))), .unset, .unset, .unset, .unset, .unset, .unset, .unset, .unset, .unset, .unset, .unset, .unset, .unset, .unset]) rfl ?_
    show Steps p.tables e below (T1.setTop (mkF m 6 #[.val (.int p0), .val (.int p1), .val (.int p2), .val (.int p3), .val (.int ((p0 &&& (2147483647 : Int32)) % (500001 : Int32))), .unset, .unset, .unset, .unset, .unset, .unset, .unset, .unset, .unset, .unset, .unset, .unset, .unset, .unset] [])) _
    refine XS.iload X1.here hx rfl (hb hby at_6) rfl ?_
    show Steps p.tables e below (T1.setTop (mkF m 8 #[.val (.int p0), .val (.int p1), .val (.int p2), .val (.int p3), .val (.int ((p0 &&& (2147483647 : Int32)) % (500001 : Int32))), .unset, .unset, .unset, .unset, .unset, .unset, .unset, .unset, .unset, .unset, .unset, .unset, .unset, .unset] [(.int ((p0 &&& (2147483647 : Int32)) % (500001 : Int32)))])) _
    refine XS.iloadN X1.here hx rfl (hb hby at_8) rfl ?_
    show Steps p.tables e below (T1.setTop (mkF m 9 #[.val (.int p0), .val (.int p1), .val (.int p2), .val (.int p3), .val (.int ((p0 &&& (2147483647 : Int32)) % (500001 : Int32))), .unset, .unset, .unset, .unset, .unset, .unset, .unset, .unset, .unset, .unset, .unset, .unset, .unset, .unset] [(.int p1), (.int ((p0 &&& (2147483647 : Int32)) % (500001 : Int32)))])) _
    refine st2 _ ?_
    show Steps p.tables e below (T2.setTop (mkF m 12 #[.val (.int p0), .val (.int p1), .val (.int p2), .val (.int p3), .val (.int ((p0 &&& (2147483647 : Int32)) % (500001 : Int32))), .unset, .unset, .unset, .unset, .unset, .unset, .unset, .unset, .unset, .unset, .unset, .unset, .unset, .unset] [(.int (((p0 &&& (2147483647 : Int32)) % (500001 : Int32)) + ((p1 &&& (2147483647 : Int32)) % ((500001 : Int32) - ((p0 &&& (2147483647 : Int32)) % (500001 : Int32))))))])) _
    refine XS.istore X2.here hx rfl (hb hby at_12) rfl (l' := #[.val (.int p0), .val (.int p1), .val (.int p2), .val (.int p3), .val (.int ((p0 &&& (2147483647 : Int32)) % (500001 : Int32))), .val (.int (((p0 &&& (2147483647 : Int32)) % (500001 : Int32)) + ((p1 &&& (2147483647 : Int32)) % ((500001 : Int32) - ((p0 &&& (2147483647 : Int32)) % (500001 : Int32)))))), .unset, .unset, .unset, .unset, .unset, .unset, .unset, .unset, .unset, .unset, .unset, .unset, .unset]) rfl ?_
    show Steps p.tables e below (T2.setTop (mkF m 14 #[.val (.int p0), .val (.int p1), .val (.int p2), .val (.int p3), .val (.int ((p0 &&& (2147483647 : Int32)) % (500001 : Int32))), .val (.int (((p0 &&& (2147483647 : Int32)) % (500001 : Int32)) + ((p1 &&& (2147483647 : Int32)) % ((500001 : Int32) - ((p0 &&& (2147483647 : Int32)) % (500001 : Int32)))))), .unset, .unset, .unset, .unset, .unset, .unset, .unset, .unset, .unset, .unset, .unset, .unset, .unset] [])) _
    refine XS.iloadN X2.here hx rfl (hb hby at_14) rfl ?_
    show Steps p.tables e below (T2.setTop (mkF m 15 #[.val (.int p0), .val (.int p1), .val (.int p2), .val (.int p3), .val (.int ((p0 &&& (2147483647 : Int32)) % (500001 : Int32))), .val (.int (((p0 &&& (2147483647 : Int32)) % (500001 : Int32)) + ((p1 &&& (2147483647 : Int32)) % ((500001 : Int32) - ((p0 &&& (2147483647 : Int32)) % (500001 : Int32)))))), .unset, .unset, .unset, .unset, .unset, .unset, .unset, .unset, .unset, .unset, .unset, .unset, .unset] [(.int p2)])) _
    refine st3 _ ?_
    show Steps p.tables e below (T3.setTop (mkF m 18 #[.val (.int p0), .val (.int p1), .val (.int p2), .val (.int p3), .val (.int ((p0 &&& (2147483647 : Int32)) % (500001 : Int32))), .val (.int (((p0 &&& (2147483647 : Int32)) % (500001 : Int32)) + ((p1 &&& (2147483647 : Int32)) % ((500001 : Int32) - ((p0 &&& (2147483647 : Int32)) % (500001 : Int32)))))), .unset, .unset, .unset, .unset, .unset, .unset, .unset, .unset, .unset, .unset, .unset, .unset, .unset] [(.int ((p2 &&& (2147483647 : Int32)) % (500001 : Int32)))])) _
    refine XS.istore X3.here hx rfl (hb hby at_18) rfl (l' := #[.val (.int p0), .val (.int p1), .val (.int p2), .val (.int p3), .val (.int ((p0 &&& (2147483647 : Int32)) % (500001 : Int32))), .val (.int (((p0 &&& (2147483647 : Int32)) % (500001 : Int32)) + ((p1 &&& (2147483647 : Int32)) % ((500001 : Int32) - ((p0 &&& (2147483647 : Int32)) % (500001 : Int32)))))), .val (.int ((p2 &&& (2147483647 : Int32)) % (500001 : Int32))), .unset, .unset, .unset, .unset, .unset, .unset, .unset, .unset, .unset, .unset, .unset, .unset]) rfl ?_
    show Steps p.tables e below (T3.setTop (mkF m 20 #[.val (.int p0), .val (.int p1), .val (.int p2), .val (.int p3), .val (.int ((p0 &&& (2147483647 : Int32)) % (500001 : Int32))), .val (.int (((p0 &&& (2147483647 : Int32)) % (500001 : Int32)) + ((p1 &&& (2147483647 : Int32)) % ((500001 : Int32) - ((p0 &&& (2147483647 : Int32)) % (500001 : Int32)))))), .val (.int ((p2 &&& (2147483647 : Int32)) % (500001 : Int32))), .unset, .unset, .unset, .unset, .unset, .unset, .unset, .unset, .unset, .unset, .unset, .unset] [])) _
    refine XS.iload X3.here hx rfl (hb hby at_20) rfl ?_
    show Steps p.tables e below (T3.setTop (mkF m 22 #[.val (.int p0), .val (.int p1), .val (.int p2), .val (.int p3), .val (.int ((p0 &&& (2147483647 : Int32)) % (500001 : Int32))), .val (.int (((p0 &&& (2147483647 : Int32)) % (500001 : Int32)) + ((p1 &&& (2147483647 : Int32)) % ((500001 : Int32) - ((p0 &&& (2147483647 : Int32)) % (500001 : Int32)))))), .val (.int ((p2 &&& (2147483647 : Int32)) % (500001 : Int32))), .unset, .unset, .unset, .unset, .unset, .unset, .unset, .unset, .unset, .unset, .unset, .unset] [(.int ((p2 &&& (2147483647 : Int32)) % (500001 : Int32)))])) _
    refine XS.iloadN X3.here hx rfl (hb hby at_22) rfl ?_
    show Steps p.tables e below (T3.setTop (mkF m 23 #[.val (.int p0), .val (.int p1), .val (.int p2), .val (.int p3), .val (.int ((p0 &&& (2147483647 : Int32)) % (500001 : Int32))), .val (.int (((p0 &&& (2147483647 : Int32)) % (500001 : Int32)) + ((p1 &&& (2147483647 : Int32)) % ((500001 : Int32) - ((p0 &&& (2147483647 : Int32)) % (500001 : Int32)))))), .val (.int ((p2 &&& (2147483647 : Int32)) % (500001 : Int32))), .unset, .unset, .unset, .unset, .unset, .unset, .unset, .unset, .unset, .unset, .unset, .unset] [(.int p3), (.int ((p2 &&& (2147483647 : Int32)) % (500001 : Int32)))])) _
    refine st4 _ ?_
    show Steps p.tables e below (T4.setTop (mkF m 26 #[.val (.int p0), .val (.int p1), .val (.int p2), .val (.int p3), .val (.int ((p0 &&& (2147483647 : Int32)) % (500001 : Int32))), .val (.int (((p0 &&& (2147483647 : Int32)) % (500001 : Int32)) + ((p1 &&& (2147483647 : Int32)) % ((500001 : Int32) - ((p0 &&& (2147483647 : Int32)) % (500001 : Int32)))))), .val (.int ((p2 &&& (2147483647 : Int32)) % (500001 : Int32))), .unset, .unset, .unset, .unset, .unset, .unset, .unset, .unset, .unset, .unset, .unset, .unset] [(.int (((p2 &&& (2147483647 : Int32)) % (500001 : Int32)) + ((p3 &&& (2147483647 : Int32)) % ((500001 : Int32) - ((p2 &&& (2147483647 : Int32)) % (500001 : Int32))))))])) _
    refine XS.istore X4.here hx rfl (hb hby at_26) rfl (l' := #[.val (.int p0), .val (.int p1), .val (.int p2), .val (.int p3), .val (.int ((p0 &&& (2147483647 : Int32)) % (500001 : Int32))), .val (.int (((p0 &&& (2147483647 : Int32)) % (500001 : Int32)) + ((p1 &&& (2147483647 : Int32)) % ((500001 : Int32) - ((p0 &&& (2147483647 : Int32)) % (500001 : Int32)))))), .val (.int ((p2 &&& (2147483647 : Int32)) % (500001 : Int32))), .val (.int (((p2 &&& (2147483647 : Int32)) % (500001 : Int32)) + ((p3 &&& (2147483647 : Int32)) % ((500001 : Int32) - ((p2 &&& (2147483647 : Int32)) % (500001 : Int32)))))), .unset, .unset, .unset, .unset, .unset, .unset, .unset, .unset, .unset, .unset, .unset]) rfl ?_
    show Steps p.tables e below (T4.setTop (mkF m 28 #[.val (.int p0), .val (.int p1), .val (.int p2), .val (.int p3), .val (.int ((p0 &&& (2147483647 : Int32)) % (500001 : Int32))), .val (.int (((p0 &&& (2147483647 : Int32)) % (500001 : Int32)) + ((p1 &&& (2147483647 : Int32)) % ((500001 : Int32) - ((p0 &&& (2147483647 : Int32)) % (500001 : Int32)))))), .val (.int ((p2 &&& (2147483647 : Int32)) % (500001 : Int32))), .val (.int (((p2 &&& (2147483647 : Int32)) % (500001 : Int32)) + ((p3 &&& (2147483647 : Int32)) % ((500001 : Int32) - ((p2 &&& (2147483647 : Int32)) % (500001 : Int32)))))), .unset, .unset, .unset, .unset, .unset, .unset, .unset, .unset, .unset, .unset, .unset] [])) _
    refine XS.iload X4.here hx rfl (hb hby at_28) rfl ?_
    show Steps p.tables e below (T4.setTop (mkF m 30 #[.val (.int p0), .val (.int p1), .val (.int p2), .val (.int p3), .val (.int ((p0 &&& (2147483647 : Int32)) % (500001 : Int32))), .val (.int (((p0 &&& (2147483647 : Int32)) % (500001 : Int32)) + ((p1 &&& (2147483647 : Int32)) % ((500001 : Int32) - ((p0 &&& (2147483647 : Int32)) % (500001 : Int32)))))), .val (.int ((p2 &&& (2147483647 : Int32)) % (500001 : Int32))), .val (.int (((p2 &&& (2147483647 : Int32)) % (500001 : Int32)) + ((p3 &&& (2147483647 : Int32)) % ((500001 : Int32) - ((p2 &&& (2147483647 : Int32)) % (500001 : Int32)))))), .unset, .unset, .unset, .unset, .unset, .unset, .unset, .unset, .unset, .unset, .unset] [(.int ((p0 &&& (2147483647 : Int32)) % (500001 : Int32)))])) _
    refine XS.i2dS X4.here hx rfl (hb hby at_30) rfl (v := FP.i2d ((p0 &&& (2147483647 : Int32)) % (500001 : Int32))) rfl ?_
    show Steps p.tables e below (T4.setTop (mkF m 31 #[.val (.int p0), .val (.int p1), .val (.int p2), .val (.int p3), .val (.int ((p0 &&& (2147483647 : Int32)) % (500001 : Int32))), .val (.int (((p0 &&& (2147483647 : Int32)) % (500001 : Int32)) + ((p1 &&& (2147483647 : Int32)) % ((500001 : Int32) - ((p0 &&& (2147483647 : Int32)) % (500001 : Int32)))))), .val (.int ((p2 &&& (2147483647 : Int32)) % (500001 : Int32))), .val (.int (((p2 &&& (2147483647 : Int32)) % (500001 : Int32)) + ((p3 &&& (2147483647 : Int32)) % ((500001 : Int32) - ((p2 &&& (2147483647 : Int32)) % (500001 : Int32)))))), .unset, .unset, .unset, .unset, .unset, .unset, .unset, .unset, .unset, .unset, .unset] [(.double (FP.i2d ((p0 &&& (2147483647 : Int32)) % (500001 : Int32))))])) _
    refine X4.ldc2DoubleC hx hown (mvT hZ (own_k hw 9 rfl)) (g := (mkF m 31 #[.val (.int p0), .val (.int p1), .val (.int p2), .val (.int p3), .val (.int ((p0 &&& (2147483647 : Int32)) % (500001 : Int32))), .val (.int (((p0 &&& (2147483647 : Int32)) % (500001 : Int32)) + ((p1 &&& (2147483647 : Int32)) % ((500001 : Int32) - ((p0 &&& (2147483647 : Int32)) % (500001 : Int32)))))), .val (.int ((p2 &&& (2147483647 : Int32)) % (500001 : Int32))), .val (.int (((p2 &&& (2147483647 : Int32)) % (500001 : Int32)) + ((p3 &&& (2147483647 : Int32)) % ((500001 : Int32) - ((p2 &&& (2147483647 : Int32)) % (500001 : Int32)))))), .unset, .unset, .unset, .unset, .unset, .unset, .unset, .unset, .unset, .unset, .unset] [(.double (FP.i2d ((p0 &&& (2147483647 : Int32)) % (500001 : Int32))))])) rfl (hb hby at_31) _ ?_
    show Steps p.tables e below (T4.setTop (mkF m 34 #[.val (.int p0), .val (.int p1), .val (.int p2), .val (.int p3), .val (.int ((p0 &&& (2147483647 : Int32)) % (500001 : Int32))), .val (.int (((p0 &&& (2147483647 : Int32)) % (500001 : Int32)) + ((p1 &&& (2147483647 : Int32)) % ((500001 : Int32) - ((p0 &&& (2147483647 : Int32)) % (500001 : Int32)))))), .val (.int ((p2 &&& (2147483647 : Int32)) % (500001 : Int32))), .val (.int (((p2 &&& (2147483647 : Int32)) % (500001 : Int32)) + ((p3 &&& (2147483647 : Int32)) % ((500001 : Int32) - ((p2 &&& (2147483647 : Int32)) % (500001 : Int32)))))), .unset, .unset, .unset, .unset, .unset, .unset, .unset, .unset, .unset, .unset, .unset] [(.double (4652007308841189376 : UInt64)), (.double (FP.i2d ((p0 &&& (2147483647 : Int32)) % (500001 : Int32))))])) _
    refine XS.ddivS X4.here hx rfl (hb hby at_34) rfl (own_nn _) (v := (FP.ddiv (FP.i2d ((p0 &&& (2147483647 : Int32)) % (500001 : Int32))) (4652007308841189376 : UInt64))) rfl ?_
    show Steps p.tables e below (T4.setTop (mkF m 35 #[.val (.int p0), .val (.int p1), .val (.int p2), .val (.int p3), .val (.int ((p0 &&& (2147483647 : Int32)) % (500001 : Int32))), .val (.int (((p0 &&& (2147483647 : Int32)) % (500001 : Int32)) + ((p1 &&& (2147483647 : Int32)) % ((500001 : Int32) - ((p0 &&& (2147483647 : Int32)) % (500001 : Int32)))))), .val (.int ((p2 &&& (2147483647 : Int32)) % (500001 : Int32))), .val (.int (((p2 &&& (2147483647 : Int32)) % (500001 : Int32)) + ((p3 &&& (2147483647 : Int32)) % ((500001 : Int32) - ((p2 &&& (2147483647 : Int32)) % (500001 : Int32)))))), .unset, .unset, .unset, .unset, .unset, .unset, .unset, .unset, .unset, .unset, .unset] [(.double (FP.ddiv (FP.i2d ((p0 &&& (2147483647 : Int32)) % (500001 : Int32))) (4652007308841189376 : UInt64)))])) _
    refine XS.dstore X4.here hx rfl (hb hby at_35) rfl (l' := #[.val (.int p0), .val (.int p1), .val (.int p2), .val (.int p3), .val (.int ((p0 &&& (2147483647 : Int32)) % (500001 : Int32))), .val (.int (((p0 &&& (2147483647 : Int32)) % (500001 : Int32)) + ((p1 &&& (2147483647 : Int32)) % ((500001 : Int32) - ((p0 &&& (2147483647 : Int32)) % (500001 : Int32)))))), .val (.int ((p2 &&& (2147483647 : Int32)) % (500001 : Int32))), .val (.int (((p2 &&& (2147483647 : Int32)) % (500001 : Int32)) + ((p3 &&& (2147483647 : Int32)) % ((500001 : Int32) - ((p2 &&& (2147483647 : Int32)) % (500001 : Int32)))))), .val (.double (FP.ddiv (FP.i2d ((p0 &&& (2147483647 : Int32)) % (500001 : Int32))) (4652007308841189376 : UInt64))), .second, .unset, .unset, .unset, .unset, .unset, .unset, .unset, .unset, .unset]) rfl ?_
    show Steps p.tables e below (T4.setTop (mkF m 37 #[.val (.int p0), .val (.int p1), .val (.int p2), .val (.int p3), .val (.int ((p0 &&& (2147483647 : Int32)) % (500001 : Int32))), .val (.int (((p0 &&& (2147483647 : Int32)) % (500001 : Int32)) + ((p1 &&& (2147483647 : Int32)) % ((500001 : Int32) - ((p0 &&& (2147483647 : Int32)) % (500001 : Int32)))))), .val (.int ((p2 &&& (2147483647 : Int32)) % (500001 : Int32))), .val (.int (((p2 &&& (2147483647 : Int32)) % (500001 : Int32)) + ((p3 &&& (2147483647 : Int32)) % ((500001 : Int32) - ((p2 &&& (2147483647 : Int32)) % (500001 : Int32)))))), .val (.double (FP.ddiv (FP.i2d ((p0 &&& (2147483647 : Int32)) % (500001 : Int32))) (4652007308841189376 : UInt64))), .second, .unset, .unset, .unset, .unset, .unset, .unset, .unset, .unset, .unset] [])) _
    refine XS.iload X4.here hx rfl (hb hby at_37) rfl ?_
    show Steps p.tables e below (T4.setTop (mkF m 39 #[.val (.int p0), .val (.int p1), .val (.int p2), .val (.int p3), .val (.int ((p0 &&& (2147483647 : Int32)) % (500001 : Int32))), .val (.int (((p0 &&& (2147483647 : Int32)) % (500001 : Int32)) + ((p1 &&& (2147483647 : Int32)) % ((500001 : Int32) - ((p0 &&& (2147483647 : Int32)) % (500001 : Int32)))))), .val (.int ((p2 &&& (2147483647 : Int32)) % (500001 : Int32))), .val (.int (((p2 &&& (2147483647 : Int32)) % (500001 : Int32)) + ((p3 &&& (2147483647 : Int32)) % ((500001 : Int32) - ((p2 &&& (2147483647 : Int32)) % (500001 : Int32)))))), .val (.double (FP.ddiv (FP.i2d ((p0 &&& (2147483647 : Int32)) % (500001 : Int32))) (4652007308841189376 : UInt64))), .second, .unset, .unset, .unset, .unset, .unset, .unset, .unset, .unset, .unset] [(.int (((p0 &&& (2147483647 : Int32)) % (500001 : Int32)) + ((p1 &&& (2147483647 : Int32)) % ((500001 : Int32) - ((p0 &&& (2147483647 : Int32)) % (500001 : Int32))))))])) _
    refine XS.i2dS X4.here hx rfl (hb hby at_39) rfl (v := FP.i2d (((p0 &&& (2147483647 : Int32)) % (500001 : Int32)) + ((p1 &&& (2147483647 : Int32)) % ((500001 : Int32) - ((p0 &&& (2147483647 : Int32)) % (500001 : Int32)))))) rfl ?_
    show Steps p.tables e below (T4.setTop (mkF m 40 #[.val (.int p0), .val (.int p1), .val (.int p2), .val (.int p3), .val (.int ((p0 &&& (2147483647 : Int32)) % (500001 : Int32))), .val (.int (((p0 &&& (2147483647 : Int32)) % (500001 : Int32)) + ((p1 &&& (2147483647 : Int32)) % ((500001 : Int32) - ((p0 &&& (2147483647 : Int32)) % (500001 : Int32)))))), .val (.int ((p2 &&& (2147483647 : Int32)) % (500001 : Int32))), .val (.int (((p2 &&& (2147483647 : Int32)) % (500001 : Int32)) + ((p3 &&& (2147483647 : Int32)) % ((500001 : Int32) - ((p2 &&& (2147483647 : Int32)) % (500001 : Int32)))))), .val (.double (FP.ddiv (FP.i2d ((p0 &&& (2147483647 : Int32)) % (500001 : Int32))) (4652007308841189376 : UInt64))), .second, .unset, .unset, .unset, .unset, .unset, .unset, .unset, .unset, .unset] [(.double (FP.i2d (((p0 &&& (2147483647 : Int32)) % (500001 : Int32)) + ((p1 &&& (2147483647 : Int32)) % ((500001 : Int32) - ((p0 &&& (2147483647 : Int32)) % (500001 : Int32)))))))])) _
    refine X4.ldc2DoubleC hx hown (mvT hZ (own_k hw 9 rfl)) (g := (mkF m 40 #[.val (.int p0), .val (.int p1), .val (.int p2), .val (.int p3), .val (.int ((p0 &&& (2147483647 : Int32)) % (500001 : Int32))), .val (.int (((p0 &&& (2147483647 : Int32)) % (500001 : Int32)) + ((p1 &&& (2147483647 : Int32)) % ((500001 : Int32) - ((p0 &&& (2147483647 : Int32)) % (500001 : Int32)))))), .val (.int ((p2 &&& (2147483647 : Int32)) % (500001 : Int32))), .val (.int (((p2 &&& (2147483647 : Int32)) % (500001 : Int32)) + ((p3 &&& (2147483647 : Int32)) % ((500001 : Int32) - ((p2 &&& (2147483647 : Int32)) % (500001 : Int32)))))), .val (.double (FP.ddiv (FP.i2d ((p0 &&& (2147483647 : Int32)) % (500001 : Int32))) (4652007308841189376 : UInt64))), .second, .unset, .unset, .unset, .unset, .unset, .unset, .unset, .unset, .unset] [(.double (FP.i2d (((p0 &&& (2147483647 : Int32)) % (500001 : Int32)) + ((p1 &&& (2147483647 : Int32)) % ((500001 : Int32) - ((p0 &&& (2147483647 : Int32)) % (500001 : Int32)))))))])) rfl (hb hby at_40) _ ?_
    show Steps p.tables e below (T4.setTop (mkF m 43 #[.val (.int p0), .val (.int p1), .val (.int p2), .val (.int p3), .val (.int ((p0 &&& (2147483647 : Int32)) % (500001 : Int32))), .val (.int (((p0 &&& (2147483647 : Int32)) % (500001 : Int32)) + ((p1 &&& (2147483647 : Int32)) % ((500001 : Int32) - ((p0 &&& (2147483647 : Int32)) % (500001 : Int32)))))), .val (.int ((p2 &&& (2147483647 : Int32)) % (500001 : Int32))), .val (.int (((p2 &&& (2147483647 : Int32)) % (500001 : Int32)) + ((p3 &&& (2147483647 : Int32)) % ((500001 : Int32) - ((p2 &&& (2147483647 : Int32)) % (500001 : Int32)))))), .val (.double (FP.ddiv (FP.i2d ((p0 &&& (2147483647 : Int32)) % (500001 : Int32))) (4652007308841189376 : UInt64))), .second, .unset, .unset, .unset, .unset, .unset, .unset, .unset, .unset, .unset] [(.double (4652007308841189376 : UInt64)), (.double (FP.i2d (((p0 &&& (2147483647 : Int32)) % (500001 : Int32)) + ((p1 &&& (2147483647 : Int32)) % ((500001 : Int32) - ((p0 &&& (2147483647 : Int32)) % (500001 : Int32)))))))])) _
    refine XS.ddivS X4.here hx rfl (hb hby at_43) rfl (own_nn _) (v := (FP.ddiv (FP.i2d (((p0 &&& (2147483647 : Int32)) % (500001 : Int32)) + ((p1 &&& (2147483647 : Int32)) % ((500001 : Int32) - ((p0 &&& (2147483647 : Int32)) % (500001 : Int32)))))) (4652007308841189376 : UInt64))) rfl ?_
    show Steps p.tables e below (T4.setTop (mkF m 44 #[.val (.int p0), .val (.int p1), .val (.int p2), .val (.int p3), .val (.int ((p0 &&& (2147483647 : Int32)) % (500001 : Int32))), .val (.int (((p0 &&& (2147483647 : Int32)) % (500001 : Int32)) + ((p1 &&& (2147483647 : Int32)) % ((500001 : Int32) - ((p0 &&& (2147483647 : Int32)) % (500001 : Int32)))))), .val (.int ((p2 &&& (2147483647 : Int32)) % (500001 : Int32))), .val (.int (((p2 &&& (2147483647 : Int32)) % (500001 : Int32)) + ((p3 &&& (2147483647 : Int32)) % ((500001 : Int32) - ((p2 &&& (2147483647 : Int32)) % (500001 : Int32)))))), .val (.double (FP.ddiv (FP.i2d ((p0 &&& (2147483647 : Int32)) % (500001 : Int32))) (4652007308841189376 : UInt64))), .second, .unset, .unset, .unset, .unset, .unset, .unset, .unset, .unset, .unset] [(.double (FP.ddiv (FP.i2d (((p0 &&& (2147483647 : Int32)) % (500001 : Int32)) + ((p1 &&& (2147483647 : Int32)) % ((500001 : Int32) - ((p0 &&& (2147483647 : Int32)) % (500001 : Int32)))))) (4652007308841189376 : UInt64)))])) _
    refine XS.dstore X4.here hx rfl (hb hby at_44) rfl (l' := #[.val (.int p0), .val (.int p1), .val (.int p2), .val (.int p3), .val (.int ((p0 &&& (2147483647 : Int32)) % (500001 : Int32))), .val (.int (((p0 &&& (2147483647 : Int32)) % (500001 : Int32)) + ((p1 &&& (2147483647 : Int32)) % ((500001 : Int32) - ((p0 &&& (2147483647 : Int32)) % (500001 : Int32)))))), .val (.int ((p2 &&& (2147483647 : Int32)) % (500001 : Int32))), .val (.int (((p2 &&& (2147483647 : Int32)) % (500001 : Int32)) + ((p3 &&& (2147483647 : Int32)) % ((500001 : Int32) - ((p2 &&& (2147483647 : Int32)) % (500001 : Int32)))))), .val (.double (FP.ddiv (FP.i2d ((p0 &&& (2147483647 : Int32)) % (500001 : Int32))) (4652007308841189376 : UInt64))), .second, .val (.double (FP.ddiv (FP.i2d (((p0 &&& (2147483647 : Int32)) % (500001 : Int32)) + ((p1 &&& (2147483647 : Int32)) % ((500001 : Int32) - ((p0 &&& (2147483647 : Int32)) % (500001 : Int32)))))) (4652007308841189376 : UInt64))), .second, .unset, .unset, .unset, .unset, .unset, .unset, .unset]) rfl ?_
    show Steps p.tables e below (T4.setTop (mkF m 46 #[.val (.int p0), .val (.int p1), .val (.int p2), .val (.int p3), .val (.int ((p0 &&& (2147483647 : Int32)) % (500001 : Int32))), .val (.int (((p0 &&& (2147483647 : Int32)) % (500001 : Int32)) + ((p1 &&& (2147483647 : Int32)) % ((500001 : Int32) - ((p0 &&& (2147483647 : Int32)) % (500001 : Int32)))))), .val (.int ((p2 &&& (2147483647 : Int32)) % (500001 : Int32))), .val (.int (((p2 &&& (2147483647 : Int32)) % (500001 : Int32)) + ((p3 &&& (2147483647 : Int32)) % ((500001 : Int32) - ((p2 &&& (2147483647 : Int32)) % (500001 : Int32)))))), .val (.double (FP.ddiv (FP.i2d ((p0 &&& (2147483647 : Int32)) % (500001 : Int32))) (4652007308841189376 : UInt64))), .second, .val (.double (FP.ddiv (FP.i2d (((p0 &&& (2147483647 : Int32)) % (500001 : Int32)) + ((p1 &&& (2147483647 : Int32)) % ((500001 : Int32) - ((p0 &&& (2147483647 : Int32)) % (500001 : Int32)))))) (4652007308841189376 : UInt64))), .second, .unset, .unset, .unset, .unset, .unset, .unset, .unset] [])) _
    refine XS.iload X4.here hx rfl (hb hby at_46) rfl ?_
    show Steps p.tables e below (T4.setTop (mkF m 48 #[.val (.int p0), .val (.int p1), .val (.int p2), .val (.int p3), .val (.int ((p0 &&& (2147483647 : Int32)) % (500001 : Int32))), .val (.int (((p0 &&& (2147483647 : Int32)) % (500001 : Int32)) + ((p1 &&& (2147483647 : Int32)) % ((500001 : Int32) - ((p0 &&& (2147483647 : Int32)) % (500001 : Int32)))))), .val (.int ((p2 &&& (2147483647 : Int32)) % (500001 : Int32))), .val (.int (((p2 &&& (2147483647 : Int32)) % (500001 : Int32)) + ((p3 &&& (2147483647 : Int32)) % ((500001 : Int32) - ((p2 &&& (2147483647 : Int32)) % (500001 : Int32)))))), .val (.double (FP.ddiv (FP.i2d ((p0 &&& (2147483647 : Int32)) % (500001 : Int32))) (4652007308841189376 : UInt64))), .second, .val (.double (FP.ddiv (FP.i2d (((p0 &&& (2147483647 : Int32)) % (500001 : Int32)) + ((p1 &&& (2147483647 : Int32)) % ((500001 : Int32) - ((p0 &&& (2147483647 : Int32)) % (500001 : Int32)))))) (4652007308841189376 : UInt64))), .second, .unset, .unset, .unset, .unset, .unset, .unset, .unset] [(.int ((p2 &&& (2147483647 : Int32)) % (500001 : Int32)))])) _
    refine XS.i2dS X4.here hx rfl (hb hby at_48) rfl (v := FP.i2d ((p2 &&& (2147483647 : Int32)) % (500001 : Int32))) rfl ?_
    show Steps p.tables e below (T4.setTop (mkF m 49 #[.val (.int p0), .val (.int p1), .val (.int p2), .val (.int p3), .val (.int ((p0 &&& (2147483647 : Int32)) % (500001 : Int32))), .val (.int (((p0 &&& (2147483647 : Int32)) % (500001 : Int32)) + ((p1 &&& (2147483647 : Int32)) % ((500001 : Int32) - ((p0 &&& (2147483647 : Int32)) % (500001 : Int32)))))), .val (.int ((p2 &&& (2147483647 : Int32)) % (500001 : Int32))), .val (.int (((p2 &&& (2147483647 : Int32)) % (500001 : Int32)) + ((p3 &&& (2147483647 : Int32)) % ((500001 : Int32) - ((p2 &&& (2147483647 : Int32)) % (500001 : Int32)))))), .val (.double (FP.ddiv (FP.i2d ((p0 &&& (2147483647 : Int32)) % (500001 : Int32))) (4652007308841189376 : UInt64))), .second, .val (.double (FP.ddiv (FP.i2d (((p0 &&& (2147483647 : Int32)) % (500001 : Int32)) + ((p1 &&& (2147483647 : Int32)) % ((500001 : Int32) - ((p0 &&& (2147483647 : Int32)) % (500001 : Int32)))))) (4652007308841189376 : UInt64))), .second, .unset, .unset, .unset, .unset, .unset, .unset, .unset] [(.double (FP.i2d ((p2 &&& (2147483647 : Int32)) % (500001 : Int32))))])) _
    refine X4.ldc2DoubleC hx hown (mvT hZ (own_k hw 9 rfl)) (g := (mkF m 49 #[.val (.int p0), .val (.int p1), .val (.int p2), .val (.int p3), .val (.int ((p0 &&& (2147483647 : Int32)) % (500001 : Int32))), .val (.int (((p0 &&& (2147483647 : Int32)) % (500001 : Int32)) + ((p1 &&& (2147483647 : Int32)) % ((500001 : Int32) - ((p0 &&& (2147483647 : Int32)) % (500001 : Int32)))))), .val (.int ((p2 &&& (2147483647 : Int32)) % (500001 : Int32))), .val (.int (((p2 &&& (2147483647 : Int32)) % (500001 : Int32)) + ((p3 &&& (2147483647 : Int32)) % ((500001 : Int32) - ((p2 &&& (2147483647 : Int32)) % (500001 : Int32)))))), .val (.double (FP.ddiv (FP.i2d ((p0 &&& (2147483647 : Int32)) % (500001 : Int32))) (4652007308841189376 : UInt64))), .second, .val (.double (FP.ddiv (FP.i2d (((p0 &&& (2147483647 : Int32)) % (500001 : Int32)) + ((p1 &&& (2147483647 : Int32)) % ((500001 : Int32) - ((p0 &&& (2147483647 : Int32)) % (500001 : Int32)))))) (4652007308841189376 : UInt64))), .second, .unset, .unset, .unset, .unset, .unset, .unset, .unset] [(.double (FP.i2d ((p2 &&& (2147483647 : Int32)) % (500001 : Int32))))])) rfl (hb hby at_49) _ ?_
    show Steps p.tables e below (T4.setTop (mkF m 52 #[.val (.int p0), .val (.int p1), .val (.int p2), .val (.int p3), .val (.int ((p0 &&& (2147483647 : Int32)) % (500001 : Int32))), .val (.int (((p0 &&& (2147483647 : Int32)) % (500001 : Int32)) + ((p1 &&& (2147483647 : Int32)) % ((500001 : Int32) - ((p0 &&& (2147483647 : Int32)) % (500001 : Int32)))))), .val (.int ((p2 &&& (2147483647 : Int32)) % (500001 : Int32))), .val (.int (((p2 &&& (2147483647 : Int32)) % (500001 : Int32)) + ((p3 &&& (2147483647 : Int32)) % ((500001 : Int32) - ((p2 &&& (2147483647 : Int32)) % (500001 : Int32)))))), .val (.double (FP.ddiv (FP.i2d ((p0 &&& (2147483647 : Int32)) % (500001 : Int32))) (4652007308841189376 : UInt64))), .second, .val (.double (FP.ddiv (FP.i2d (((p0 &&& (2147483647 : Int32)) % (500001 : Int32)) + ((p1 &&& (2147483647 : Int32)) % ((500001 : Int32) - ((p0 &&& (2147483647 : Int32)) % (500001 : Int32)))))) (4652007308841189376 : UInt64))), .second, .unset, .unset, .unset, .unset, .unset, .unset, .unset] [(.double (4652007308841189376 : UInt64)), (.double (FP.i2d ((p2 &&& (2147483647 : Int32)) % (500001 : Int32))))])) _
    refine XS.ddivS X4.here hx rfl (hb hby at_52) rfl (own_nn _) (v := (FP.ddiv (FP.i2d ((p2 &&& (2147483647 : Int32)) % (500001 : Int32))) (4652007308841189376 : UInt64))) rfl ?_
    show Steps p.tables e below (T4.setTop (mkF m 53 #[.val (.int p0), .val (.int p1), .val (.int p2), .val (.int p3), .val (.int ((p0 &&& (2147483647 : Int32)) % (500001 : Int32))), .val (.int (((p0 &&& (2147483647 : Int32)) % (500001 : Int32)) + ((p1 &&& (2147483647 : Int32)) % ((500001 : Int32) - ((p0 &&& (2147483647 : Int32)) % (500001 : Int32)))))), .val (.int ((p2 &&& (2147483647 : Int32)) % (500001 : Int32))), .val (.int (((p2 &&& (2147483647 : Int32)) % (500001 : Int32)) + ((p3 &&& (2147483647 : Int32)) % ((500001 : Int32) - ((p2 &&& (2147483647 : Int32)) % (500001 : Int32)))))), .val (.double (FP.ddiv (FP.i2d ((p0 &&& (2147483647 : Int32)) % (500001 : Int32))) (4652007308841189376 : UInt64))), .second, .val (.double (FP.ddiv (FP.i2d (((p0 &&& (2147483647 : Int32)) % (500001 : Int32)) + ((p1 &&& (2147483647 : Int32)) % ((500001 : Int32) - ((p0 &&& (2147483647 : Int32)) % (500001 : Int32)))))) (4652007308841189376 : UInt64))), .second, .unset, .unset, .unset, .unset, .unset, .unset, .unset] [(.double (FP.ddiv (FP.i2d ((p2 &&& (2147483647 : Int32)) % (500001 : Int32))) (4652007308841189376 : UInt64)))])) _
    refine XS.dstore X4.here hx rfl (hb hby at_53) rfl (l' := #[.val (.int p0), .val (.int p1), .val (.int p2), .val (.int p3), .val (.int ((p0 &&& (2147483647 : Int32)) % (500001 : Int32))), .val (.int (((p0 &&& (2147483647 : Int32)) % (500001 : Int32)) + ((p1 &&& (2147483647 : Int32)) % ((500001 : Int32) - ((p0 &&& (2147483647 : Int32)) % (500001 : Int32)))))), .val (.int ((p2 &&& (2147483647 : Int32)) % (500001 : Int32))), .val (.int (((p2 &&& (2147483647 : Int32)) % (500001 : Int32)) + ((p3 &&& (2147483647 : Int32)) % ((500001 : Int32) - ((p2 &&& (2147483647 : Int32)) % (500001 : Int32)))))), .val (.double (FP.ddiv (FP.i2d ((p0 &&& (2147483647 : Int32)) % (500001 : Int32))) (4652007308841189376 : UInt64))), .second, .val (.double (FP.ddiv (FP.i2d (((p0 &&& (2147483647 : Int32)) % (500001 : Int32)) + ((p1 &&& (2147483647 : Int32)) % ((500001 : Int32) - ((p0 &&& (2147483647 : Int32)) % (500001 : Int32)))))) (4652007308841189376 : UInt64))), .second, .val (.double (FP.ddiv (FP.i2d ((p2 &&& (2147483647 : Int32)) % (500001 : Int32))) (4652007308841189376 : UInt64))), .second, .unset, .unset, .unset, .unset, .unset]) rfl ?_
    show Steps p.tables e below (T4.setTop (mkF m 55 #[.val (.int p0), .val (.int p1), .val (.int p2), .val (.int p3), .val (.int ((p0 &&& (2147483647 : Int32)) % (500001 : Int32))), .val (.int (((p0 &&& (2147483647 : Int32)) % (500001 : Int32)) + ((p1 &&& (2147483647 : Int32)) % ((500001 : Int32) - ((p0 &&& (2147483647 : Int32)) % (500001 : Int32)))))), .val (.int ((p2 &&& (2147483647 : Int32)) % (500001 : Int32))), .val (.int (((p2 &&& (2147483647 : Int32)) % (500001 : Int32)) + ((p3 &&& (2147483647 : Int32)) % ((500001 : Int32) - ((p2 &&& (2147483647 : Int32)) % (500001 : Int32)))))), .val (.double (FP.ddiv (FP.i2d ((p0 &&& (2147483647 : Int32)) % (500001 : Int32))) (4652007308841189376 : UInt64))), .second, .val (.double (FP.ddiv (FP.i2d (((p0 &&& (2147483647 : Int32)) % (500001 : Int32)) + ((p1 &&& (2147483647 : Int32)) % ((500001 : Int32) - ((p0 &&& (2147483647 : Int32)) % (500001 : Int32)))))) (4652007308841189376 : UInt64))), .second, .val (.double (FP.ddiv (FP.i2d ((p2 &&& (2147483647 : Int32)) % (500001 : Int32))) (4652007308841189376 : UInt64))), .second, .unset, .unset, .unset, .unset, .unset] [])) _
    refine XS.iload X4.here hx rfl (hb hby at_55) rfl ?_
    show Steps p.tables e below (T4.setTop (mkF m 57 #[.val (.int p0), .val (.int p1), .val (.int p2), .val (.int p3), .val (.int ((p0 &&& (2147483647 : Int32)) % (500001 : Int32))), .val (.int (((p0 &&& (2147483647 : Int32)) % (500001 : Int32)) + ((p1 &&& (2147483647 : Int32)) % ((500001 : Int32) - ((p0 &&& (2147483647 : Int32)) % (500001 : Int32)))))), .val (.int ((p2 &&& (2147483647 : Int32)) % (500001 : Int32))), .val (.int (((p2 &&& (2147483647 : Int32)) % (500001 : Int32)) + ((p3 &&& (2147483647 : Int32)) % ((500001 : Int32) - ((p2 &&& (2147483647 : Int32)) % (500001 : Int32)))))), .val (.double (FP.ddiv (FP.i2d ((p0 &&& (2147483647 : Int32)) % (500001 : Int32))) (4652007308841189376 : UInt64))), .second, .val (.double (FP.ddiv (FP.i2d (((p0 &&& (2147483647 : Int32)) % (500001 : Int32)) + ((p1 &&& (2147483647 : Int32)) % ((500001 : Int32) - ((p0 &&& (2147483647 : Int32)) % (500001 : Int32)))))) (4652007308841189376 : UInt64))), .second, .val (.double (FP.ddiv (FP.i2d ((p2 &&& (2147483647 : Int32)) % (500001 : Int32))) (4652007308841189376 : UInt64))), .second, .unset, .unset, .unset, .unset, .unset] [(.int (((p2 &&& (2147483647 : Int32)) % (500001 : Int32)) + ((p3 &&& (2147483647 : Int32)) % ((500001 : Int32) - ((p2 &&& (2147483647 : Int32)) % (500001 : Int32))))))])) _
    refine XS.i2dS X4.here hx rfl (hb hby at_57) rfl (v := FP.i2d (((p2 &&& (2147483647 : Int32)) % (500001 : Int32)) + ((p3 &&& (2147483647 : Int32)) % ((500001 : Int32) - ((p2 &&& (2147483647 : Int32)) % (500001 : Int32)))))) rfl ?_
    show Steps p.tables e below (T4.setTop (mkF m 58 #[.val (.int p0), .val (.int p1), .val (.int p2), .val (.int p3), .val (.int ((p0 &&& (2147483647 : Int32)) % (500001 : Int32))), .val (.int (((p0 &&& (2147483647 : Int32)) % (500001 : Int32)) + ((p1 &&& (2147483647 : Int32)) % ((500001 : Int32) - ((p0 &&& (2147483647 : Int32)) % (500001 : Int32)))))), .val (.int ((p2 &&& (2147483647 : Int32)) % (500001 : Int32))), .val (.int (((p2 &&& (2147483647 : Int32)) % (500001 : Int32)) + ((p3 &&& (2147483647 : Int32)) % ((500001 : Int32) - ((p2 &&& (2147483647 : Int32)) % (500001 : Int32)))))), .val (.double (FP.ddiv (FP.i2d ((p0 &&& (2147483647 : Int32)) % (500001 : Int32))) (4652007308841189376 : UInt64))), .second, .val (.double (FP.ddiv (FP.i2d (((p0 &&& (2147483647 : Int32)) % (500001 : Int32)) + ((p1 &&& (2147483647 : Int32)) % ((500001 : Int32) - ((p0 &&& (2147483647 : Int32)) % (500001 : Int32)))))) (4652007308841189376 : UInt64))), .second, .val (.double (FP.ddiv (FP.i2d ((p2 &&& (2147483647 : Int32)) % (500001 : Int32))) (4652007308841189376 : UInt64))), .second, .unset, .unset, .unset, .unset, .unset] [(.double (FP.i2d (((p2 &&& (2147483647 : Int32)) % (500001 : Int32)) + ((p3 &&& (2147483647 : Int32)) % ((500001 : Int32) - ((p2 &&& (2147483647 : Int32)) % (500001 : Int32)))))))])) _
    refine X4.ldc2DoubleC hx hown (mvT hZ (own_k hw 9 rfl)) (g := (mkF m 58 #[.val (.int p0), .val (.int p1), .val (.int p2), .val (.int p3), .val (.int ((p0 &&& (2147483647 : Int32)) % (500001 : Int32))), .val (.int (((p0 &&& (2147483647 : Int32)) % (500001 : Int32)) + ((p1 &&& (2147483647 : Int32)) % ((500001 : Int32) - ((p0 &&& (2147483647 : Int32)) % (500001 : Int32)))))), .val (.int ((p2 &&& (2147483647 : Int32)) % (500001 : Int32))), .val (.int (((p2 &&& (2147483647 : Int32)) % (500001 : Int32)) + ((p3 &&& (2147483647 : Int32)) % ((500001 : Int32) - ((p2 &&& (2147483647 : Int32)) % (500001 : Int32)))))), .val (.double (FP.ddiv (FP.i2d ((p0 &&& (2147483647 : Int32)) % (500001 : Int32))) (4652007308841189376 : UInt64))), .second, .val (.double (FP.ddiv (FP.i2d (((p0 &&& (2147483647 : Int32)) % (500001 : Int32)) + ((p1 &&& (2147483647 : Int32)) % ((500001 : Int32) - ((p0 &&& (2147483647 : Int32)) % (500001 : Int32)))))) (4652007308841189376 : UInt64))), .second, .val (.double (FP.ddiv (FP.i2d ((p2 &&& (2147483647 : Int32)) % (500001 : Int32))) (4652007308841189376 : UInt64))), .second, .unset, .unset, .unset, .unset, .unset] [(.double (FP.i2d (((p2 &&& (2147483647 : Int32)) % (500001 : Int32)) + ((p3 &&& (2147483647 : Int32)) % ((500001 : Int32) - ((p2 &&& (2147483647 : Int32)) % (500001 : Int32)))))))])) rfl (hb hby at_58) _ ?_
    show Steps p.tables e below (T4.setTop (mkF m 61 #[.val (.int p0), .val (.int p1), .val (.int p2), .val (.int p3), .val (.int ((p0 &&& (2147483647 : Int32)) % (500001 : Int32))), .val (.int (((p0 &&& (2147483647 : Int32)) % (500001 : Int32)) + ((p1 &&& (2147483647 : Int32)) % ((500001 : Int32) - ((p0 &&& (2147483647 : Int32)) % (500001 : Int32)))))), .val (.int ((p2 &&& (2147483647 : Int32)) % (500001 : Int32))), .val (.int (((p2 &&& (2147483647 : Int32)) % (500001 : Int32)) + ((p3 &&& (2147483647 : Int32)) % ((500001 : Int32) - ((p2 &&& (2147483647 : Int32)) % (500001 : Int32)))))), .val (.double (FP.ddiv (FP.i2d ((p0 &&& (2147483647 : Int32)) % (500001 : Int32))) (4652007308841189376 : UInt64))), .second, .val (.double (FP.ddiv (FP.i2d (((p0 &&& (2147483647 : Int32)) % (500001 : Int32)) + ((p1 &&& (2147483647 : Int32)) % ((500001 : Int32) - ((p0 &&& (2147483647 : Int32)) % (500001 : Int32)))))) (4652007308841189376 : UInt64))), .second, .val (.double (FP.ddiv (FP.i2d ((p2 &&& (2147483647 : Int32)) % (500001 : Int32))) (4652007308841189376 : UInt64))), .second, .unset, .unset, .unset, .unset, .unset] [(.double (4652007308841189376 : UInt64)), (.double (FP.i2d (((p2 &&& (2147483647 : Int32)) % (500001 : Int32)) + ((p3 &&& (2147483647 : Int32)) % ((500001 : Int32) - ((p2 &&& (2147483647 : Int32)) % (500001 : Int32)))))))])) _
    refine XS.ddivS X4.here hx rfl (hb hby at_61) rfl (own_nn _) (v := (FP.ddiv (FP.i2d (((p2 &&& (2147483647 : Int32)) % (500001 : Int32)) + ((p3 &&& (2147483647 : Int32)) % ((500001 : Int32) - ((p2 &&& (2147483647 : Int32)) % (500001 : Int32)))))) (4652007308841189376 : UInt64))) rfl ?_
    show Steps p.tables e below (T4.setTop (mkF m 62 #[.val (.int p0), .val (.int p1), .val (.int p2), .val (.int p3), .val (.int ((p0 &&& (2147483647 : Int32)) % (500001 : Int32))), .val (.int (((p0 &&& (2147483647 : Int32)) % (500001 : Int32)) + ((p1 &&& (2147483647 : Int32)) % ((500001 : Int32) - ((p0 &&& (2147483647 : Int32)) % (500001 : Int32)))))), .val (.int ((p2 &&& (2147483647 : Int32)) % (500001 : Int32))), .val (.int (((p2 &&& (2147483647 : Int32)) % (500001 : Int32)) + ((p3 &&& (2147483647 : Int32)) % ((500001 : Int32) - ((p2 &&& (2147483647 : Int32)) % (500001 : Int32)))))), .val (.double (FP.ddiv (FP.i2d ((p0 &&& (2147483647 : Int32)) % (500001 : Int32))) (4652007308841189376 : UInt64))), .second, .val (.double (FP.ddiv (FP.i2d (((p0 &&& (2147483647 : Int32)) % (500001 : Int32)) + ((p1 &&& (2147483647 : Int32)) % ((500001 : Int32) - ((p0 &&& (2147483647 : Int32)) % (500001 : Int32)))))) (4652007308841189376 : UInt64))), .second, .val (.double (FP.ddiv (FP.i2d ((p2 &&& (2147483647 : Int32)) % (500001 : Int32))) (4652007308841189376 : UInt64))), .second, .unset, .unset, .unset, .unset, .unset] [(.double (FP.ddiv (FP.i2d (((p2 &&& (2147483647 : Int32)) % (500001 : Int32)) + ((p3 &&& (2147483647 : Int32)) % ((500001 : Int32) - ((p2 &&& (2147483647 : Int32)) % (500001 : Int32)))))) (4652007308841189376 : UInt64)))])) _
    refine XS.dstore X4.here hx rfl (hb hby at_62) rfl (l' := #[.val (.int p0), .val (.int p1), .val (.int p2), .val (.int p3), .val (.int ((p0 &&& (2147483647 : Int32)) % (500001 : Int32))), .val (.int (((p0 &&& (2147483647 : Int32)) % (500001 : Int32)) + ((p1 &&& (2147483647 : Int32)) % ((500001 : Int32) - ((p0 &&& (2147483647 : Int32)) % (500001 : Int32)))))), .val (.int ((p2 &&& (2147483647 : Int32)) % (500001 : Int32))), .val (.int (((p2 &&& (2147483647 : Int32)) % (500001 : Int32)) + ((p3 &&& (2147483647 : Int32)) % ((500001 : Int32) - ((p2 &&& (2147483647 : Int32)) % (500001 : Int32)))))), .val (.double (FP.ddiv (FP.i2d ((p0 &&& (2147483647 : Int32)) % (500001 : Int32))) (4652007308841189376 : UInt64))), .second, .val (.double (FP.ddiv (FP.i2d (((p0 &&& (2147483647 : Int32)) % (500001 : Int32)) + ((p1 &&& (2147483647 : Int32)) % ((500001 : Int32) - ((p0 &&& (2147483647 : Int32)) % (500001 : Int32)))))) (4652007308841189376 : UInt64))), .second, .val (.double (FP.ddiv (FP.i2d ((p2 &&& (2147483647 : Int32)) % (500001 : Int32))) (4652007308841189376 : UInt64))), .second, .val (.double (FP.ddiv (FP.i2d (((p2 &&& (2147483647 : Int32)) % (500001 : Int32)) + ((p3 &&& (2147483647 : Int32)) % ((500001 : Int32) - ((p2 &&& (2147483647 : Int32)) % (500001 : Int32)))))) (4652007308841189376 : UInt64))), .second, .unset, .unset, .unset]) rfl ?_
    show Steps p.tables e below (T4.setTop (mkF m 64 #[.val (.int p0), .val (.int p1), .val (.int p2), .val (.int p3), .val (.int ((p0 &&& (2147483647 : Int32)) % (500001 : Int32))), .val (.int (((p0 &&& (2147483647 : Int32)) % (500001 : Int32)) + ((p1 &&& (2147483647 : Int32)) % ((500001 : Int32) - ((p0 &&& (2147483647 : Int32)) % (500001 : Int32)))))), .val (.int ((p2 &&& (2147483647 : Int32)) % (500001 : Int32))), .val (.int (((p2 &&& (2147483647 : Int32)) % (500001 : Int32)) + ((p3 &&& (2147483647 : Int32)) % ((500001 : Int32) - ((p2 &&& (2147483647 : Int32)) % (500001 : Int32)))))), .val (.double (FP.ddiv (FP.i2d ((p0 &&& (2147483647 : Int32)) % (500001 : Int32))) (4652007308841189376 : UInt64))), .second, .val (.double (FP.ddiv (FP.i2d (((p0 &&& (2147483647 : Int32)) % (500001 : Int32)) + ((p1 &&& (2147483647 : Int32)) % ((500001 : Int32) - ((p0 &&& (2147483647 : Int32)) % (500001 : Int32)))))) (4652007308841189376 : UInt64))), .second, .val (.double (FP.ddiv (FP.i2d ((p2 &&& (2147483647 : Int32)) % (500001 : Int32))) (4652007308841189376 : UInt64))), .second, .val (.double (FP.ddiv (FP.i2d (((p2 &&& (2147483647 : Int32)) % (500001 : Int32)) + ((p3 &&& (2147483647 : Int32)) % ((500001 : Int32) - ((p2 &&& (2147483647 : Int32)) % (500001 : Int32)))))) (4652007308841189376 : UInt64))), .second, .unset, .unset, .unset] [])) _
    refine XS.dload X4.here hx rfl (hb hby at_64) rfl ?_
    show Steps p.tables e below (T4.setTop (mkF m 66 #[.val (.int p0), .val (.int p1), .val (.int p2), .val (.int p3), .val (.int ((p0 &&& (2147483647 : Int32)) % (500001 : Int32))), .val (.int (((p0 &&& (2147483647 : Int32)) % (500001 : Int32)) + ((p1 &&& (2147483647 : Int32)) % ((500001 : Int32) - ((p0 &&& (2147483647 : Int32)) % (500001 : Int32)))))), .val (.int ((p2 &&& (2147483647 : Int32)) % (500001 : Int32))), .val (.int (((p2 &&& (2147483647 : Int32)) % (500001 : Int32)) + ((p3 &&& (2147483647 : Int32)) % ((500001 : Int32) - ((p2 &&& (2147483647 : Int32)) % (500001 : Int32)))))), .val (.double (FP.ddiv (FP.i2d ((p0 &&& (2147483647 : Int32)) % (500001 : Int32))) (4652007308841189376 : UInt64))), .second, .val (.double (FP.ddiv (FP.i2d (((p0 &&& (2147483647 : Int32)) % (500001 : Int32)) + ((p1 &&& (2147483647 : Int32)) % ((500001 : Int32) - ((p0 &&& (2147483647 : Int32)) % (500001 : Int32)))))) (4652007308841189376 : UInt64))), .second, .val (.double (FP.ddiv (FP.i2d ((p2 &&& (2147483647 : Int32)) % (500001 : Int32))) (4652007308841189376 : UInt64))), .second, .val (.double (FP.ddiv (FP.i2d (((p2 &&& (2147483647 : Int32)) % (500001 : Int32)) + ((p3 &&& (2147483647 : Int32)) % ((500001 : Int32) - ((p2 &&& (2147483647 : Int32)) % (500001 : Int32)))))) (4652007308841189376 : UInt64))), .second, .unset, .unset, .unset] [(.double (FP.ddiv (FP.i2d ((p0 &&& (2147483647 : Int32)) % (500001 : Int32))) (4652007308841189376 : UInt64)))])) _
    refine XS.dload X4.here hx rfl (hb hby at_66) rfl ?_
    show Steps p.tables e below (T4.setTop (mkF m 68 #[.val (.int p0), .val (.int p1), .val (.int p2), .val (.int p3), .val (.int ((p0 &&& (2147483647 : Int32)) % (500001 : Int32))), .val (.int (((p0 &&& (2147483647 : Int32)) % (500001 : Int32)) + ((p1 &&& (2147483647 : Int32)) % ((500001 : Int32) - ((p0 &&& (2147483647 : Int32)) % (500001 : Int32)))))), .val (.int ((p2 &&& (2147483647 : Int32)) % (500001 : Int32))), .val (.int (((p2 &&& (2147483647 : Int32)) % (500001 : Int32)) + ((p3 &&& (2147483647 : Int32)) % ((500001 : Int32) - ((p2 &&& (2147483647 : Int32)) % (500001 : Int32)))))), .val (.double (FP.ddiv (FP.i2d ((p0 &&& (2147483647 : Int32)) % (500001 : Int32))) (4652007308841189376 : UInt64))), .second, .val (.double (FP.ddiv (FP.i2d (((p0 &&& (2147483647 : Int32)) % (500001 : Int32)) + ((p1 &&& (2147483647 : Int32)) % ((500001 : Int32) - ((p0 &&& (2147483647 : Int32)) % (500001 : Int32)))))) (4652007308841189376 : UInt64))), .second, .val (.double (FP.ddiv (FP.i2d ((p2 &&& (2147483647 : Int32)) % (500001 : Int32))) (4652007308841189376 : UInt64))), .second, .val (.double (FP.ddiv (FP.i2d (((p2 &&& (2147483647 : Int32)) % (500001 : Int32)) + ((p3 &&& (2147483647 : Int32)) % ((500001 : Int32) - ((p2 &&& (2147483647 : Int32)) % (500001 : Int32)))))) (4652007308841189376 : UInt64))), .second, .unset, .unset, .unset] [(.double (FP.ddiv (FP.i2d (((p0 &&& (2147483647 : Int32)) % (500001 : Int32)) + ((p1 &&& (2147483647 : Int32)) % ((500001 : Int32) - ((p0 &&& (2147483647 : Int32)) % (500001 : Int32)))))) (4652007308841189376 : UInt64))), (.double (FP.ddiv (FP.i2d ((p0 &&& (2147483647 : Int32)) % (500001 : Int32))) (4652007308841189376 : UInt64)))])) _
    refine st5 _ ?_
    show Steps p.tables e below (T5.setTop (mkF m 71 #[.val (.int p0), .val (.int p1), .val (.int p2), .val (.int p3), .val (.int ((p0 &&& (2147483647 : Int32)) % (500001 : Int32))), .val (.int (((p0 &&& (2147483647 : Int32)) % (500001 : Int32)) + ((p1 &&& (2147483647 : Int32)) % ((500001 : Int32) - ((p0 &&& (2147483647 : Int32)) % (500001 : Int32)))))), .val (.int ((p2 &&& (2147483647 : Int32)) % (500001 : Int32))), .val (.int (((p2 &&& (2147483647 : Int32)) % (500001 : Int32)) + ((p3 &&& (2147483647 : Int32)) % ((500001 : Int32) - ((p2 &&& (2147483647 : Int32)) % (500001 : Int32)))))), .val (.double (FP.ddiv (FP.i2d ((p0 &&& (2147483647 : Int32)) % (500001 : Int32))) (4652007308841189376 : UInt64))), .second, .val (.double (FP.ddiv (FP.i2d (((p0 &&& (2147483647 : Int32)) % (500001 : Int32)) + ((p1 &&& (2147483647 : Int32)) % ((500001 : Int32) - ((p0 &&& (2147483647 : Int32)) % (500001 : Int32)))))) (4652007308841189376 : UInt64))), .second, .val (.double (FP.ddiv (FP.i2d ((p2 &&& (2147483647 : Int32)) % (500001 : Int32))) (4652007308841189376 : UInt64))), .second, .val (.double (FP.ddiv (FP.i2d (((p2 &&& (2147483647 : Int32)) % (500001 : Int32)) + ((p3 &&& (2147483647 : Int32)) % ((500001 : Int32) - ((p2 &&& (2147483647 : Int32)) % (500001 : Int32)))))) (4652007308841189376 : UInt64))), .second, .unset, .unset, .unset] [(.ref bb_5)])) _
    refine XS.astore X5.here hx rfl (hb hby at_71) rfl rfl (l' := #[.val (.int p0), .val (.int p1), .val (.int p2), .val (.int p3), .val (.int ((p0 &&& (2147483647 : Int32)) % (500001 : Int32))), .val (.int (((p0 &&& (2147483647 : Int32)) % (500001 : Int32)) + ((p1 &&& (2147483647 : Int32)) % ((500001 : Int32) - ((p0 &&& (2147483647 : Int32)) % (500001 : Int32)))))), .val (.int ((p2 &&& (2147483647 : Int32)) % (500001 : Int32))), .val (.int (((p2 &&& (2147483647 : Int32)) % (500001 : Int32)) + ((p3 &&& (2147483647 : Int32)) % ((500001 : Int32) - ((p2 &&& (2147483647 : Int32)) % (500001 : Int32)))))), .val (.double (FP.ddiv (FP.i2d ((p0 &&& (2147483647 : Int32)) % (500001 : Int32))) (4652007308841189376 : UInt64))), .second, .val (.double (FP.ddiv (FP.i2d (((p0 &&& (2147483647 : Int32)) % (500001 : Int32)) + ((p1 &&& (2147483647 : Int32)) % ((500001 : Int32) - ((p0 &&& (2147483647 : Int32)) % (500001 : Int32)))))) (4652007308841189376 : UInt64))), .second, .val (.double (FP.ddiv (FP.i2d ((p2 &&& (2147483647 : Int32)) % (500001 : Int32))) (4652007308841189376 : UInt64))), .second, .val (.double (FP.ddiv (FP.i2d (((p2 &&& (2147483647 : Int32)) % (500001 : Int32)) + ((p3 &&& (2147483647 : Int32)) % ((500001 : Int32) - ((p2 &&& (2147483647 : Int32)) % (500001 : Int32)))))) (4652007308841189376 : UInt64))), .second, .val (.ref bb_5), .unset, .unset]) rfl ?_
    show Steps p.tables e below (T5.setTop (mkF m 73 #[.val (.int p0), .val (.int p1), .val (.int p2), .val (.int p3), .val (.int ((p0 &&& (2147483647 : Int32)) % (500001 : Int32))), .val (.int (((p0 &&& (2147483647 : Int32)) % (500001 : Int32)) + ((p1 &&& (2147483647 : Int32)) % ((500001 : Int32) - ((p0 &&& (2147483647 : Int32)) % (500001 : Int32)))))), .val (.int ((p2 &&& (2147483647 : Int32)) % (500001 : Int32))), .val (.int (((p2 &&& (2147483647 : Int32)) % (500001 : Int32)) + ((p3 &&& (2147483647 : Int32)) % ((500001 : Int32) - ((p2 &&& (2147483647 : Int32)) % (500001 : Int32)))))), .val (.double (FP.ddiv (FP.i2d ((p0 &&& (2147483647 : Int32)) % (500001 : Int32))) (4652007308841189376 : UInt64))), .second, .val (.double (FP.ddiv (FP.i2d (((p0 &&& (2147483647 : Int32)) % (500001 : Int32)) + ((p1 &&& (2147483647 : Int32)) % ((500001 : Int32) - ((p0 &&& (2147483647 : Int32)) % (500001 : Int32)))))) (4652007308841189376 : UInt64))), .second, .val (.double (FP.ddiv (FP.i2d ((p2 &&& (2147483647 : Int32)) % (500001 : Int32))) (4652007308841189376 : UInt64))), .second, .val (.double (FP.ddiv (FP.i2d (((p2 &&& (2147483647 : Int32)) % (500001 : Int32)) + ((p3 &&& (2147483647 : Int32)) % ((500001 : Int32) - ((p2 &&& (2147483647 : Int32)) % (500001 : Int32)))))) (4652007308841189376 : UInt64))), .second, .val (.ref bb_5), .unset, .unset] [])) _
    refine XS.aload X5.here hx rfl (hb hby at_73) rfl rfl ?_
    show Steps p.tables e below (T5.setTop (mkF m 75 #[.val (.int p0), .val (.int p1), .val (.int p2), .val (.int p3), .val (.int ((p0 &&& (2147483647 : Int32)) % (500001 : Int32))), .val (.int (((p0 &&& (2147483647 : Int32)) % (500001 : Int32)) + ((p1 &&& (2147483647 : Int32)) % ((500001 : Int32) - ((p0 &&& (2147483647 : Int32)) % (500001 : Int32)))))), .val (.int ((p2 &&& (2147483647 : Int32)) % (500001 : Int32))), .val (.int (((p2 &&& (2147483647 : Int32)) % (500001 : Int32)) + ((p3 &&& (2147483647 : Int32)) % ((500001 : Int32) - ((p2 &&& (2147483647 : Int32)) % (500001 : Int32)))))), .val (.double (FP.ddiv (FP.i2d ((p0 &&& (2147483647 : Int32)) % (500001 : Int32))) (4652007308841189376 : UInt64))), .second, .val (.double (FP.ddiv (FP.i2d (((p0 &&& (2147483647 : Int32)) % (500001 : Int32)) + ((p1 &&& (2147483647 : Int32)) % ((500001 : Int32) - ((p0 &&& (2147483647 : Int32)) % (500001 : Int32)))))) (4652007308841189376 : UInt64))), .second, .val (.double (FP.ddiv (FP.i2d ((p2 &&& (2147483647 : Int32)) % (500001 : Int32))) (4652007308841189376 : UInt64))), .second, .val (.double (FP.ddiv (FP.i2d (((p2 &&& (2147483647 : Int32)) % (500001 : Int32)) + ((p3 &&& (2147483647 : Int32)) % ((500001 : Int32) - ((p2 &&& (2147483647 : Int32)) % (500001 : Int32)))))) (4652007308841189376 : UInt64))), .second, .val (.ref bb_5), .unset, .unset] [(.ref bb_5)])) _
    refine XS.dload X5.here hx rfl (hb hby at_75) rfl ?_
    show Steps p.tables e below (T5.setTop (mkF m 77 #[.val (.int p0), .val (.int p1), .val (.int p2), .val (.int p3), .val (.int ((p0 &&& (2147483647 : Int32)) % (500001 : Int32))), .val (.int (((p0 &&& (2147483647 : Int32)) % (500001 : Int32)) + ((p1 &&& (2147483647 : Int32)) % ((500001 : Int32) - ((p0 &&& (2147483647 : Int32)) % (500001 : Int32)))))), .val (.int ((p2 &&& (2147483647 : Int32)) % (500001 : Int32))), .val (.int (((p2 &&& (2147483647 : Int32)) % (500001 : Int32)) + ((p3 &&& (2147483647 : Int32)) % ((500001 : Int32) - ((p2 &&& (2147483647 : Int32)) % (500001 : Int32)))))), .val (.double (FP.ddiv (FP.i2d ((p0 &&& (2147483647 : Int32)) % (500001 : Int32))) (4652007308841189376 : UInt64))), .second, .val (.double (FP.ddiv (FP.i2d (((p0 &&& (2147483647 : Int32)) % (500001 : Int32)) + ((p1 &&& (2147483647 : Int32)) % ((500001 : Int32) - ((p0 &&& (2147483647 : Int32)) % (500001 : Int32)))))) (4652007308841189376 : UInt64))), .second, .val (.double (FP.ddiv (FP.i2d ((p2 &&& (2147483647 : Int32)) % (500001 : Int32))) (4652007308841189376 : UInt64))), .second, .val (.double (FP.ddiv (FP.i2d (((p2 &&& (2147483647 : Int32)) % (500001 : Int32)) + ((p3 &&& (2147483647 : Int32)) % ((500001 : Int32) - ((p2 &&& (2147483647 : Int32)) % (500001 : Int32)))))) (4652007308841189376 : UInt64))), .second, .val (.ref bb_5), .unset, .unset] [(.double (FP.ddiv (FP.i2d ((p0 &&& (2147483647 : Int32)) % (500001 : Int32))) (4652007308841189376 : UInt64))), (.ref bb_5)])) _
    refine XS.dload X5.here hx rfl (hb hby at_77) rfl ?_
    show Steps p.tables e below (T5.setTop (mkF m 79 #[.val (.int p0), .val (.int p1), .val (.int p2), .val (.int p3), .val (.int ((p0 &&& (2147483647 : Int32)) % (500001 : Int32))), .val (.int (((p0 &&& (2147483647 : Int32)) % (500001 : Int32)) + ((p1 &&& (2147483647 : Int32)) % ((500001 : Int32) - ((p0 &&& (2147483647 : Int32)) % (500001 : Int32)))))), .val (.int ((p2 &&& (2147483647 : Int32)) % (500001 : Int32))), .val (.int (((p2 &&& (2147483647 : Int32)) % (500001 : Int32)) + ((p3 &&& (2147483647 : Int32)) % ((500001 : Int32) - ((p2 &&& (2147483647 : Int32)) % (500001 : Int32)))))), .val (.double (FP.ddiv (FP.i2d ((p0 &&& (2147483647 : Int32)) % (500001 : Int32))) (4652007308841189376 : UInt64))), .second, .val (.double (FP.ddiv (FP.i2d (((p0 &&& (2147483647 : Int32)) % (500001 : Int32)) + ((p1 &&& (2147483647 : Int32)) % ((500001 : Int32) - ((p0 &&& (2147483647 : Int32)) % (500001 : Int32)))))) (4652007308841189376 : UInt64))), .second, .val (.double (FP.ddiv (FP.i2d ((p2 &&& (2147483647 : Int32)) % (500001 : Int32))) (4652007308841189376 : UInt64))), .second, .val (.double (FP.ddiv (FP.i2d (((p2 &&& (2147483647 : Int32)) % (500001 : Int32)) + ((p3 &&& (2147483647 : Int32)) % ((500001 : Int32) - ((p2 &&& (2147483647 : Int32)) % (500001 : Int32)))))) (4652007308841189376 : UInt64))), .second, .val (.ref bb_5), .unset, .unset] [(.double (FP.ddiv (FP.i2d (((p0 &&& (2147483647 : Int32)) % (500001 : Int32)) + ((p1 &&& (2147483647 : Int32)) % ((500001 : Int32) - ((p0 &&& (2147483647 : Int32)) % (500001 : Int32)))))) (4652007308841189376 : UInt64))), (.double (FP.ddiv (FP.i2d ((p0 &&& (2147483647 : Int32)) % (500001 : Int32))) (4652007308841189376 : UInt64))), (.ref bb_5)])) _
    refine st6 _ ?_
    show Steps p.tables e below (T6.setTop (mkF m 82 #[.val (.int p0), .val (.int p1), .val (.int p2), .val (.int p3), .val (.int ((p0 &&& (2147483647 : Int32)) % (500001 : Int32))), .val (.int (((p0 &&& (2147483647 : Int32)) % (500001 : Int32)) + ((p1 &&& (2147483647 : Int32)) % ((500001 : Int32) - ((p0 &&& (2147483647 : Int32)) % (500001 : Int32)))))), .val (.int ((p2 &&& (2147483647 : Int32)) % (500001 : Int32))), .val (.int (((p2 &&& (2147483647 : Int32)) % (500001 : Int32)) + ((p3 &&& (2147483647 : Int32)) % ((500001 : Int32) - ((p2 &&& (2147483647 : Int32)) % (500001 : Int32)))))), .val (.double (FP.ddiv (FP.i2d ((p0 &&& (2147483647 : Int32)) % (500001 : Int32))) (4652007308841189376 : UInt64))), .second, .val (.double (FP.ddiv (FP.i2d (((p0 &&& (2147483647 : Int32)) % (500001 : Int32)) + ((p1 &&& (2147483647 : Int32)) % ((500001 : Int32) - ((p0 &&& (2147483647 : Int32)) % (500001 : Int32)))))) (4652007308841189376 : UInt64))), .second, .val (.double (FP.ddiv (FP.i2d ((p2 &&& (2147483647 : Int32)) % (500001 : Int32))) (4652007308841189376 : UInt64))), .second, .val (.double (FP.ddiv (FP.i2d (((p2 &&& (2147483647 : Int32)) % (500001 : Int32)) + ((p3 &&& (2147483647 : Int32)) % ((500001 : Int32) - ((p2 &&& (2147483647 : Int32)) % (500001 : Int32)))))) (4652007308841189376 : UInt64))), .second, .val (.ref bb_5), .unset, .unset] [(.int (1 : Int32))])) _
    refine XS.istore X6.here hx rfl (hb hby at_82) rfl (l' := #[.val (.int p0), .val (.int p1), .val (.int p2), .val (.int p3), .val (.int ((p0 &&& (2147483647 : Int32)) % (500001 : Int32))), .val (.int (((p0 &&& (2147483647 : Int32)) % (500001 : Int32)) + ((p1 &&& (2147483647 : Int32)) % ((500001 : Int32) - ((p0 &&& (2147483647 : Int32)) % (500001 : Int32)))))), .val (.int ((p2 &&& (2147483647 : Int32)) % (500001 : Int32))), .val (.int (((p2 &&& (2147483647 : Int32)) % (500001 : Int32)) + ((p3 &&& (2147483647 : Int32)) % ((500001 : Int32) - ((p2 &&& (2147483647 : Int32)) % (500001 : Int32)))))), .val (.double (FP.ddiv (FP.i2d ((p0 &&& (2147483647 : Int32)) % (500001 : Int32))) (4652007308841189376 : UInt64))), .second, .val (.double (FP.ddiv (FP.i2d (((p0 &&& (2147483647 : Int32)) % (500001 : Int32)) + ((p1 &&& (2147483647 : Int32)) % ((500001 : Int32) - ((p0 &&& (2147483647 : Int32)) % (500001 : Int32)))))) (4652007308841189376 : UInt64))), .second, .val (.double (FP.ddiv (FP.i2d ((p2 &&& (2147483647 : Int32)) % (500001 : Int32))) (4652007308841189376 : UInt64))), .second, .val (.double (FP.ddiv (FP.i2d (((p2 &&& (2147483647 : Int32)) % (500001 : Int32)) + ((p3 &&& (2147483647 : Int32)) % ((500001 : Int32) - ((p2 &&& (2147483647 : Int32)) % (500001 : Int32)))))) (4652007308841189376 : UInt64))), .second, .val (.ref bb_5), .val (.int (1 : Int32)), .unset]) rfl ?_
    show Steps p.tables e below (T6.setTop (mkF m 84 #[.val (.int p0), .val (.int p1), .val (.int p2), .val (.int p3), .val (.int ((p0 &&& (2147483647 : Int32)) % (500001 : Int32))), .val (.int (((p0 &&& (2147483647 : Int32)) % (500001 : Int32)) + ((p1 &&& (2147483647 : Int32)) % ((500001 : Int32) - ((p0 &&& (2147483647 : Int32)) % (500001 : Int32)))))), .val (.int ((p2 &&& (2147483647 : Int32)) % (500001 : Int32))), .val (.int (((p2 &&& (2147483647 : Int32)) % (500001 : Int32)) + ((p3 &&& (2147483647 : Int32)) % ((500001 : Int32) - ((p2 &&& (2147483647 : Int32)) % (500001 : Int32)))))), .val (.double (FP.ddiv (FP.i2d ((p0 &&& (2147483647 : Int32)) % (500001 : Int32))) (4652007308841189376 : UInt64))), .second, .val (.double (FP.ddiv (FP.i2d (((p0 &&& (2147483647 : Int32)) % (500001 : Int32)) + ((p1 &&& (2147483647 : Int32)) % ((500001 : Int32) - ((p0 &&& (2147483647 : Int32)) % (500001 : Int32)))))) (4652007308841189376 : UInt64))), .second, .val (.double (FP.ddiv (FP.i2d ((p2 &&& (2147483647 : Int32)) % (500001 : Int32))) (4652007308841189376 : UInt64))), .second, .val (.double (FP.ddiv (FP.i2d (((p2 &&& (2147483647 : Int32)) % (500001 : Int32)) + ((p3 &&& (2147483647 : Int32)) % ((500001 : Int32) - ((p2 &&& (2147483647 : Int32)) % (500001 : Int32)))))) (4652007308841189376 : UInt64))), .second, .val (.ref bb_5), .val (.int (1 : Int32)), .unset] [])) _
    refine XS.dload X6.here hx rfl (hb hby at_84) rfl ?_
    show Steps p.tables e below (T6.setTop (mkF m 86 #[.val (.int p0), .val (.int p1), .val (.int p2), .val (.int p3), .val (.int ((p0 &&& (2147483647 : Int32)) % (500001 : Int32))), .val (.int (((p0 &&& (2147483647 : Int32)) % (500001 : Int32)) + ((p1 &&& (2147483647 : Int32)) % ((500001 : Int32) - ((p0 &&& (2147483647 : Int32)) % (500001 : Int32)))))), .val (.int ((p2 &&& (2147483647 : Int32)) % (500001 : Int32))), .val (.int (((p2 &&& (2147483647 : Int32)) % (500001 : Int32)) + ((p3 &&& (2147483647 : Int32)) % ((500001 : Int32) - ((p2 &&& (2147483647 : Int32)) % (500001 : Int32)))))), .val (.double (FP.ddiv (FP.i2d ((p0 &&& (2147483647 : Int32)) % (500001 : Int32))) (4652007308841189376 : UInt64))), .second, .val (.double (FP.ddiv (FP.i2d (((p0 &&& (2147483647 : Int32)) % (500001 : Int32)) + ((p1 &&& (2147483647 : Int32)) % ((500001 : Int32) - ((p0 &&& (2147483647 : Int32)) % (500001 : Int32)))))) (4652007308841189376 : UInt64))), .second, .val (.double (FP.ddiv (FP.i2d ((p2 &&& (2147483647 : Int32)) % (500001 : Int32))) (4652007308841189376 : UInt64))), .second, .val (.double (FP.ddiv (FP.i2d (((p2 &&& (2147483647 : Int32)) % (500001 : Int32)) + ((p3 &&& (2147483647 : Int32)) % ((500001 : Int32) - ((p2 &&& (2147483647 : Int32)) % (500001 : Int32)))))) (4652007308841189376 : UInt64))), .second, .val (.ref bb_5), .val (.int (1 : Int32)), .unset] [(.double (FP.ddiv (FP.i2d ((p2 &&& (2147483647 : Int32)) % (500001 : Int32))) (4652007308841189376 : UInt64)))])) _
    refine XS.dload X6.here hx rfl (hb hby at_86) rfl ?_
    show Steps p.tables e below (T6.setTop (mkF m 88 #[.val (.int p0), .val (.int p1), .val (.int p2), .val (.int p3), .val (.int ((p0 &&& (2147483647 : Int32)) % (500001 : Int32))), .val (.int (((p0 &&& (2147483647 : Int32)) % (500001 : Int32)) + ((p1 &&& (2147483647 : Int32)) % ((500001 : Int32) - ((p0 &&& (2147483647 : Int32)) % (500001 : Int32)))))), .val (.int ((p2 &&& (2147483647 : Int32)) % (500001 : Int32))), .val (.int (((p2 &&& (2147483647 : Int32)) % (500001 : Int32)) + ((p3 &&& (2147483647 : Int32)) % ((500001 : Int32) - ((p2 &&& (2147483647 : Int32)) % (500001 : Int32)))))), .val (.double (FP.ddiv (FP.i2d ((p0 &&& (2147483647 : Int32)) % (500001 : Int32))) (4652007308841189376 : UInt64))), .second, .val (.double (FP.ddiv (FP.i2d (((p0 &&& (2147483647 : Int32)) % (500001 : Int32)) + ((p1 &&& (2147483647 : Int32)) % ((500001 : Int32) - ((p0 &&& (2147483647 : Int32)) % (500001 : Int32)))))) (4652007308841189376 : UInt64))), .second, .val (.double (FP.ddiv (FP.i2d ((p2 &&& (2147483647 : Int32)) % (500001 : Int32))) (4652007308841189376 : UInt64))), .second, .val (.double (FP.ddiv (FP.i2d (((p2 &&& (2147483647 : Int32)) % (500001 : Int32)) + ((p3 &&& (2147483647 : Int32)) % ((500001 : Int32) - ((p2 &&& (2147483647 : Int32)) % (500001 : Int32)))))) (4652007308841189376 : UInt64))), .second, .val (.ref bb_5), .val (.int (1 : Int32)), .unset] [(.double (FP.ddiv (FP.i2d (((p2 &&& (2147483647 : Int32)) % (500001 : Int32)) + ((p3 &&& (2147483647 : Int32)) % ((500001 : Int32) - ((p2 &&& (2147483647 : Int32)) % (500001 : Int32)))))) (4652007308841189376 : UInt64))), (.double (FP.ddiv (FP.i2d ((p2 &&& (2147483647 : Int32)) % (500001 : Int32))) (4652007308841189376 : UInt64)))])) _
    refine st9 _ ?_
    show Steps p.tables e below (T9.setTop (mkF m 91 #[.val (.int p0), .val (.int p1), .val (.int p2), .val (.int p3), .val (.int ((p0 &&& (2147483647 : Int32)) % (500001 : Int32))), .val (.int (((p0 &&& (2147483647 : Int32)) % (500001 : Int32)) + ((p1 &&& (2147483647 : Int32)) % ((500001 : Int32) - ((p0 &&& (2147483647 : Int32)) % (500001 : Int32)))))), .val (.int ((p2 &&& (2147483647 : Int32)) % (500001 : Int32))), .val (.int (((p2 &&& (2147483647 : Int32)) % (500001 : Int32)) + ((p3 &&& (2147483647 : Int32)) % ((500001 : Int32) - ((p2 &&& (2147483647 : Int32)) % (500001 : Int32)))))), .val (.double (FP.ddiv (FP.i2d ((p0 &&& (2147483647 : Int32)) % (500001 : Int32))) (4652007308841189376 : UInt64))), .second, .val (.double (FP.ddiv (FP.i2d (((p0 &&& (2147483647 : Int32)) % (500001 : Int32)) + ((p1 &&& (2147483647 : Int32)) % ((500001 : Int32) - ((p0 &&& (2147483647 : Int32)) % (500001 : Int32)))))) (4652007308841189376 : UInt64))), .second, .val (.double (FP.ddiv (FP.i2d ((p2 &&& (2147483647 : Int32)) % (500001 : Int32))) (4652007308841189376 : UInt64))), .second, .val (.double (FP.ddiv (FP.i2d (((p2 &&& (2147483647 : Int32)) % (500001 : Int32)) + ((p3 &&& (2147483647 : Int32)) % ((500001 : Int32) - ((p2 &&& (2147483647 : Int32)) % (500001 : Int32)))))) (4652007308841189376 : UInt64))), .second, .val (.ref bb_5), .val (.int (1 : Int32)), .unset] [(.ref bb_9)])) _
    refine XS.astore X9.here hx rfl (hb hby at_91) rfl rfl (l' := #[.val (.int p0), .val (.int p1), .val (.int p2), .val (.int p3), .val (.int ((p0 &&& (2147483647 : Int32)) % (500001 : Int32))), .val (.int (((p0 &&& (2147483647 : Int32)) % (500001 : Int32)) + ((p1 &&& (2147483647 : Int32)) % ((500001 : Int32) - ((p0 &&& (2147483647 : Int32)) % (500001 : Int32)))))), .val (.int ((p2 &&& (2147483647 : Int32)) % (500001 : Int32))), .val (.int (((p2 &&& (2147483647 : Int32)) % (500001 : Int32)) + ((p3 &&& (2147483647 : Int32)) % ((500001 : Int32) - ((p2 &&& (2147483647 : Int32)) % (500001 : Int32)))))), .val (.double (FP.ddiv (FP.i2d ((p0 &&& (2147483647 : Int32)) % (500001 : Int32))) (4652007308841189376 : UInt64))), .second, .val (.double (FP.ddiv (FP.i2d (((p0 &&& (2147483647 : Int32)) % (500001 : Int32)) + ((p1 &&& (2147483647 : Int32)) % ((500001 : Int32) - ((p0 &&& (2147483647 : Int32)) % (500001 : Int32)))))) (4652007308841189376 : UInt64))), .second, .val (.double (FP.ddiv (FP.i2d ((p2 &&& (2147483647 : Int32)) % (500001 : Int32))) (4652007308841189376 : UInt64))), .second, .val (.double (FP.ddiv (FP.i2d (((p2 &&& (2147483647 : Int32)) % (500001 : Int32)) + ((p3 &&& (2147483647 : Int32)) % ((500001 : Int32) - ((p2 &&& (2147483647 : Int32)) % (500001 : Int32)))))) (4652007308841189376 : UInt64))), .second, .val (.ref bb_5), .val (.int (1 : Int32)), .val (.ref bb_9)]) rfl ?_
    show Steps p.tables e below (T9.setTop (mkF m 93 #[.val (.int p0), .val (.int p1), .val (.int p2), .val (.int p3), .val (.int ((p0 &&& (2147483647 : Int32)) % (500001 : Int32))), .val (.int (((p0 &&& (2147483647 : Int32)) % (500001 : Int32)) + ((p1 &&& (2147483647 : Int32)) % ((500001 : Int32) - ((p0 &&& (2147483647 : Int32)) % (500001 : Int32)))))), .val (.int ((p2 &&& (2147483647 : Int32)) % (500001 : Int32))), .val (.int (((p2 &&& (2147483647 : Int32)) % (500001 : Int32)) + ((p3 &&& (2147483647 : Int32)) % ((500001 : Int32) - ((p2 &&& (2147483647 : Int32)) % (500001 : Int32)))))), .val (.double (FP.ddiv (FP.i2d ((p0 &&& (2147483647 : Int32)) % (500001 : Int32))) (4652007308841189376 : UInt64))), .second, .val (.double (FP.ddiv (FP.i2d (((p0 &&& (2147483647 : Int32)) % (500001 : Int32)) + ((p1 &&& (2147483647 : Int32)) % ((500001 : Int32) - ((p0 &&& (2147483647 : Int32)) % (500001 : Int32)))))) (4652007308841189376 : UInt64))), .second, .val (.double (FP.ddiv (FP.i2d ((p2 &&& (2147483647 : Int32)) % (500001 : Int32))) (4652007308841189376 : UInt64))), .second, .val (.double (FP.ddiv (FP.i2d (((p2 &&& (2147483647 : Int32)) % (500001 : Int32)) + ((p3 &&& (2147483647 : Int32)) % ((500001 : Int32) - ((p2 &&& (2147483647 : Int32)) % (500001 : Int32)))))) (4652007308841189376 : UInt64))), .second, .val (.ref bb_5), .val (.int (1 : Int32)), .val (.ref bb_9)] [])) _
    refine XS.iload X9.here hx rfl (hb hby at_93) rfl ?_
    show Steps p.tables e below (T9.setTop (mkF m 95 #[.val (.int p0), .val (.int p1), .val (.int p2), .val (.int p3), .val (.int ((p0 &&& (2147483647 : Int32)) % (500001 : Int32))), .val (.int (((p0 &&& (2147483647 : Int32)) % (500001 : Int32)) + ((p1 &&& (2147483647 : Int32)) % ((500001 : Int32) - ((p0 &&& (2147483647 : Int32)) % (500001 : Int32)))))), .val (.int ((p2 &&& (2147483647 : Int32)) % (500001 : Int32))), .val (.int (((p2 &&& (2147483647 : Int32)) % (500001 : Int32)) + ((p3 &&& (2147483647 : Int32)) % ((500001 : Int32) - ((p2 &&& (2147483647 : Int32)) % (500001 : Int32)))))), .val (.double (FP.ddiv (FP.i2d ((p0 &&& (2147483647 : Int32)) % (500001 : Int32))) (4652007308841189376 : UInt64))), .second, .val (.double (FP.ddiv (FP.i2d (((p0 &&& (2147483647 : Int32)) % (500001 : Int32)) + ((p1 &&& (2147483647 : Int32)) % ((500001 : Int32) - ((p0 &&& (2147483647 : Int32)) % (500001 : Int32)))))) (4652007308841189376 : UInt64))), .second, .val (.double (FP.ddiv (FP.i2d ((p2 &&& (2147483647 : Int32)) % (500001 : Int32))) (4652007308841189376 : UInt64))), .second, .val (.double (FP.ddiv (FP.i2d (((p2 &&& (2147483647 : Int32)) % (500001 : Int32)) + ((p3 &&& (2147483647 : Int32)) % ((500001 : Int32) - ((p2 &&& (2147483647 : Int32)) % (500001 : Int32)))))) (4652007308841189376 : UInt64))), .second, .val (.ref bb_5), .val (.int (1 : Int32)), .val (.ref bb_9)] [(.int (1 : Int32))])) _
    refine XS.ifNo X9.here hx rfl (hb hby at_95) rfl (by decide) ?_
    show Steps p.tables e below (T9.setTop (mkF m 98 #[.val (.int p0), .val (.int p1), .val (.int p2), .val (.int p3), .val (.int ((p0 &&& (2147483647 : Int32)) % (500001 : Int32))), .val (.int (((p0 &&& (2147483647 : Int32)) % (500001 : Int32)) + ((p1 &&& (2147483647 : Int32)) % ((500001 : Int32) - ((p0 &&& (2147483647 : Int32)) % (500001 : Int32)))))), .val (.int ((p2 &&& (2147483647 : Int32)) % (500001 : Int32))), .val (.int (((p2 &&& (2147483647 : Int32)) % (500001 : Int32)) + ((p3 &&& (2147483647 : Int32)) % ((500001 : Int32) - ((p2 &&& (2147483647 : Int32)) % (500001 : Int32)))))), .val (.double (FP.ddiv (FP.i2d ((p0 &&& (2147483647 : Int32)) % (500001 : Int32))) (4652007308841189376 : UInt64))), .second, .val (.double (FP.ddiv (FP.i2d (((p0 &&& (2147483647 : Int32)) % (500001 : Int32)) + ((p1 &&& (2147483647 : Int32)) % ((500001 : Int32) - ((p0 &&& (2147483647 : Int32)) % (500001 : Int32)))))) (4652007308841189376 : UInt64))), .second, .val (.double (FP.ddiv (FP.i2d ((p2 &&& (2147483647 : Int32)) % (500001 : Int32))) (4652007308841189376 : UInt64))), .second, .val (.double (FP.ddiv (FP.i2d (((p2 &&& (2147483647 : Int32)) % (500001 : Int32)) + ((p3 &&& (2147483647 : Int32)) % ((500001 : Int32) - ((p2 &&& (2147483647 : Int32)) % (500001 : Int32)))))) (4652007308841189376 : UInt64))), .second, .val (.ref bb_5), .val (.int (1 : Int32)), .val (.ref bb_9)] [])) _
    refine XS.aload X9.here hx rfl (hb hby at_98) rfl rfl ?_
    show Steps p.tables e below (T9.setTop (mkF m 100 #[.val (.int p0), .val (.int p1), .val (.int p2), .val (.int p3), .val (.int ((p0 &&& (2147483647 : Int32)) % (500001 : Int32))), .val (.int (((p0 &&& (2147483647 : Int32)) % (500001 : Int32)) + ((p1 &&& (2147483647 : Int32)) % ((500001 : Int32) - ((p0 &&& (2147483647 : Int32)) % (500001 : Int32)))))), .val (.int ((p2 &&& (2147483647 : Int32)) % (500001 : Int32))), .val (.int (((p2 &&& (2147483647 : Int32)) % (500001 : Int32)) + ((p3 &&& (2147483647 : Int32)) % ((500001 : Int32) - ((p2 &&& (2147483647 : Int32)) % (500001 : Int32)))))), .val (.double (FP.ddiv (FP.i2d ((p0 &&& (2147483647 : Int32)) % (500001 : Int32))) (4652007308841189376 : UInt64))), .second, .val (.double (FP.ddiv (FP.i2d (((p0 &&& (2147483647 : Int32)) % (500001 : Int32)) + ((p1 &&& (2147483647 : Int32)) % ((500001 : Int32) - ((p0 &&& (2147483647 : Int32)) % (500001 : Int32)))))) (4652007308841189376 : UInt64))), .second, .val (.double (FP.ddiv (FP.i2d ((p2 &&& (2147483647 : Int32)) % (500001 : Int32))) (4652007308841189376 : UInt64))), .second, .val (.double (FP.ddiv (FP.i2d (((p2 &&& (2147483647 : Int32)) % (500001 : Int32)) + ((p3 &&& (2147483647 : Int32)) % ((500001 : Int32) - ((p2 &&& (2147483647 : Int32)) % (500001 : Int32)))))) (4652007308841189376 : UInt64))), .second, .val (.ref bb_5), .val (.int (1 : Int32)), .val (.ref bb_9)] [(.ref bb_9)])) _
    refine XS.dload X9.here hx rfl (hb hby at_100) rfl ?_
    show Steps p.tables e below (T9.setTop (mkF m 102 #[.val (.int p0), .val (.int p1), .val (.int p2), .val (.int p3), .val (.int ((p0 &&& (2147483647 : Int32)) % (500001 : Int32))), .val (.int (((p0 &&& (2147483647 : Int32)) % (500001 : Int32)) + ((p1 &&& (2147483647 : Int32)) % ((500001 : Int32) - ((p0 &&& (2147483647 : Int32)) % (500001 : Int32)))))), .val (.int ((p2 &&& (2147483647 : Int32)) % (500001 : Int32))), .val (.int (((p2 &&& (2147483647 : Int32)) % (500001 : Int32)) + ((p3 &&& (2147483647 : Int32)) % ((500001 : Int32) - ((p2 &&& (2147483647 : Int32)) % (500001 : Int32)))))), .val (.double (FP.ddiv (FP.i2d ((p0 &&& (2147483647 : Int32)) % (500001 : Int32))) (4652007308841189376 : UInt64))), .second, .val (.double (FP.ddiv (FP.i2d (((p0 &&& (2147483647 : Int32)) % (500001 : Int32)) + ((p1 &&& (2147483647 : Int32)) % ((500001 : Int32) - ((p0 &&& (2147483647 : Int32)) % (500001 : Int32)))))) (4652007308841189376 : UInt64))), .second, .val (.double (FP.ddiv (FP.i2d ((p2 &&& (2147483647 : Int32)) % (500001 : Int32))) (4652007308841189376 : UInt64))), .second, .val (.double (FP.ddiv (FP.i2d (((p2 &&& (2147483647 : Int32)) % (500001 : Int32)) + ((p3 &&& (2147483647 : Int32)) % ((500001 : Int32) - ((p2 &&& (2147483647 : Int32)) % (500001 : Int32)))))) (4652007308841189376 : UInt64))), .second, .val (.ref bb_5), .val (.int (1 : Int32)), .val (.ref bb_9)] [(.double (FP.ddiv (FP.i2d ((p2 &&& (2147483647 : Int32)) % (500001 : Int32))) (4652007308841189376 : UInt64))), (.ref bb_9)])) _
    refine XS.dload X9.here hx rfl (hb hby at_102) rfl ?_
    show Steps p.tables e below (T9.setTop (mkF m 104 #[.val (.int p0), .val (.int p1), .val (.int p2), .val (.int p3), .val (.int ((p0 &&& (2147483647 : Int32)) % (500001 : Int32))), .val (.int (((p0 &&& (2147483647 : Int32)) % (500001 : Int32)) + ((p1 &&& (2147483647 : Int32)) % ((500001 : Int32) - ((p0 &&& (2147483647 : Int32)) % (500001 : Int32)))))), .val (.int ((p2 &&& (2147483647 : Int32)) % (500001 : Int32))), .val (.int (((p2 &&& (2147483647 : Int32)) % (500001 : Int32)) + ((p3 &&& (2147483647 : Int32)) % ((500001 : Int32) - ((p2 &&& (2147483647 : Int32)) % (500001 : Int32)))))), .val (.double (FP.ddiv (FP.i2d ((p0 &&& (2147483647 : Int32)) % (500001 : Int32))) (4652007308841189376 : UInt64))), .second, .val (.double (FP.ddiv (FP.i2d (((p0 &&& (2147483647 : Int32)) % (500001 : Int32)) + ((p1 &&& (2147483647 : Int32)) % ((500001 : Int32) - ((p0 &&& (2147483647 : Int32)) % (500001 : Int32)))))) (4652007308841189376 : UInt64))), .second, .val (.double (FP.ddiv (FP.i2d ((p2 &&& (2147483647 : Int32)) % (500001 : Int32))) (4652007308841189376 : UInt64))), .second, .val (.double (FP.ddiv (FP.i2d (((p2 &&& (2147483647 : Int32)) % (500001 : Int32)) + ((p3 &&& (2147483647 : Int32)) % ((500001 : Int32) - ((p2 &&& (2147483647 : Int32)) % (500001 : Int32)))))) (4652007308841189376 : UInt64))), .second, .val (.ref bb_5), .val (.int (1 : Int32)), .val (.ref bb_9)] [(.double (FP.ddiv (FP.i2d (((p2 &&& (2147483647 : Int32)) % (500001 : Int32)) + ((p3 &&& (2147483647 : Int32)) % ((500001 : Int32) - ((p2 &&& (2147483647 : Int32)) % (500001 : Int32)))))) (4652007308841189376 : UInt64))), (.double (FP.ddiv (FP.i2d ((p2 &&& (2147483647 : Int32)) % (500001 : Int32))) (4652007308841189376 : UInt64))), (.ref bb_9)])) _
    refine st10 _ ?_
    show Steps p.tables e below (T10.setTop (mkF m 107 #[.val (.int p0), .val (.int p1), .val (.int p2), .val (.int p3), .val (.int ((p0 &&& (2147483647 : Int32)) % (500001 : Int32))), .val (.int (((p0 &&& (2147483647 : Int32)) % (500001 : Int32)) + ((p1 &&& (2147483647 : Int32)) % ((500001 : Int32) - ((p0 &&& (2147483647 : Int32)) % (500001 : Int32)))))), .val (.int ((p2 &&& (2147483647 : Int32)) % (500001 : Int32))), .val (.int (((p2 &&& (2147483647 : Int32)) % (500001 : Int32)) + ((p3 &&& (2147483647 : Int32)) % ((500001 : Int32) - ((p2 &&& (2147483647 : Int32)) % (500001 : Int32)))))), .val (.double (FP.ddiv (FP.i2d ((p0 &&& (2147483647 : Int32)) % (500001 : Int32))) (4652007308841189376 : UInt64))), .second, .val (.double (FP.ddiv (FP.i2d (((p0 &&& (2147483647 : Int32)) % (500001 : Int32)) + ((p1 &&& (2147483647 : Int32)) % ((500001 : Int32) - ((p0 &&& (2147483647 : Int32)) % (500001 : Int32)))))) (4652007308841189376 : UInt64))), .second, .val (.double (FP.ddiv (FP.i2d ((p2 &&& (2147483647 : Int32)) % (500001 : Int32))) (4652007308841189376 : UInt64))), .second, .val (.double (FP.ddiv (FP.i2d (((p2 &&& (2147483647 : Int32)) % (500001 : Int32)) + ((p3 &&& (2147483647 : Int32)) % ((500001 : Int32) - ((p2 &&& (2147483647 : Int32)) % (500001 : Int32)))))) (4652007308841189376 : UInt64))), .second, .val (.ref bb_5), .val (.int (1 : Int32)), .val (.ref bb_9)] [(.int (1 : Int32))])) _
    refine XS.ifNo X10.here hx rfl (hb hby at_107) rfl (by decide) ?_
    show Steps p.tables e below (T10.setTop (mkF m 110 #[.val (.int p0), .val (.int p1), .val (.int p2), .val (.int p3), .val (.int ((p0 &&& (2147483647 : Int32)) % (500001 : Int32))), .val (.int (((p0 &&& (2147483647 : Int32)) % (500001 : Int32)) + ((p1 &&& (2147483647 : Int32)) % ((500001 : Int32) - ((p0 &&& (2147483647 : Int32)) % (500001 : Int32)))))), .val (.int ((p2 &&& (2147483647 : Int32)) % (500001 : Int32))), .val (.int (((p2 &&& (2147483647 : Int32)) % (500001 : Int32)) + ((p3 &&& (2147483647 : Int32)) % ((500001 : Int32) - ((p2 &&& (2147483647 : Int32)) % (500001 : Int32)))))), .val (.double (FP.ddiv (FP.i2d ((p0 &&& (2147483647 : Int32)) % (500001 : Int32))) (4652007308841189376 : UInt64))), .second, .val (.double (FP.ddiv (FP.i2d (((p0 &&& (2147483647 : Int32)) % (500001 : Int32)) + ((p1 &&& (2147483647 : Int32)) % ((500001 : Int32) - ((p0 &&& (2147483647 : Int32)) % (500001 : Int32)))))) (4652007308841189376 : UInt64))), .second, .val (.double (FP.ddiv (FP.i2d ((p2 &&& (2147483647 : Int32)) % (500001 : Int32))) (4652007308841189376 : UInt64))), .second, .val (.double (FP.ddiv (FP.i2d (((p2 &&& (2147483647 : Int32)) % (500001 : Int32)) + ((p3 &&& (2147483647 : Int32)) % ((500001 : Int32) - ((p2 &&& (2147483647 : Int32)) % (500001 : Int32)))))) (4652007308841189376 : UInt64))), .second, .val (.ref bb_5), .val (.int (1 : Int32)), .val (.ref bb_9)] [])) _
    refine XS.aload X10.here hx rfl (hb hby at_110) rfl rfl ?_
    show Steps p.tables e below (T10.setTop (mkF m 112 #[.val (.int p0), .val (.int p1), .val (.int p2), .val (.int p3), .val (.int ((p0 &&& (2147483647 : Int32)) % (500001 : Int32))), .val (.int (((p0 &&& (2147483647 : Int32)) % (500001 : Int32)) + ((p1 &&& (2147483647 : Int32)) % ((500001 : Int32) - ((p0 &&& (2147483647 : Int32)) % (500001 : Int32)))))), .val (.int ((p2 &&& (2147483647 : Int32)) % (500001 : Int32))), .val (.int (((p2 &&& (2147483647 : Int32)) % (500001 : Int32)) + ((p3 &&& (2147483647 : Int32)) % ((500001 : Int32) - ((p2 &&& (2147483647 : Int32)) % (500001 : Int32)))))), .val (.double (FP.ddiv (FP.i2d ((p0 &&& (2147483647 : Int32)) % (500001 : Int32))) (4652007308841189376 : UInt64))), .second, .val (.double (FP.ddiv (FP.i2d (((p0 &&& (2147483647 : Int32)) % (500001 : Int32)) + ((p1 &&& (2147483647 : Int32)) % ((500001 : Int32) - ((p0 &&& (2147483647 : Int32)) % (500001 : Int32)))))) (4652007308841189376 : UInt64))), .second, .val (.double (FP.ddiv (FP.i2d ((p2 &&& (2147483647 : Int32)) % (500001 : Int32))) (4652007308841189376 : UInt64))), .second, .val (.double (FP.ddiv (FP.i2d (((p2 &&& (2147483647 : Int32)) % (500001 : Int32)) + ((p3 &&& (2147483647 : Int32)) % ((500001 : Int32) - ((p2 &&& (2147483647 : Int32)) % (500001 : Int32)))))) (4652007308841189376 : UInt64))), .second, .val (.ref bb_5), .val (.int (1 : Int32)), .val (.ref bb_9)] [(.ref bb_5)])) _
    refine XS.dload X10.here hx rfl (hb hby at_112) rfl ?_
    show Steps p.tables e below (T10.setTop (mkF m 114 #[.val (.int p0), .val (.int p1), .val (.int p2), .val (.int p3), .val (.int ((p0 &&& (2147483647 : Int32)) % (500001 : Int32))), .val (.int (((p0 &&& (2147483647 : Int32)) % (500001 : Int32)) + ((p1 &&& (2147483647 : Int32)) % ((500001 : Int32) - ((p0 &&& (2147483647 : Int32)) % (500001 : Int32)))))), .val (.int ((p2 &&& (2147483647 : Int32)) % (500001 : Int32))), .val (.int (((p2 &&& (2147483647 : Int32)) % (500001 : Int32)) + ((p3 &&& (2147483647 : Int32)) % ((500001 : Int32) - ((p2 &&& (2147483647 : Int32)) % (500001 : Int32)))))), .val (.double (FP.ddiv (FP.i2d ((p0 &&& (2147483647 : Int32)) % (500001 : Int32))) (4652007308841189376 : UInt64))), .second, .val (.double (FP.ddiv (FP.i2d (((p0 &&& (2147483647 : Int32)) % (500001 : Int32)) + ((p1 &&& (2147483647 : Int32)) % ((500001 : Int32) - ((p0 &&& (2147483647 : Int32)) % (500001 : Int32)))))) (4652007308841189376 : UInt64))), .second, .val (.double (FP.ddiv (FP.i2d ((p2 &&& (2147483647 : Int32)) % (500001 : Int32))) (4652007308841189376 : UInt64))), .second, .val (.double (FP.ddiv (FP.i2d (((p2 &&& (2147483647 : Int32)) % (500001 : Int32)) + ((p3 &&& (2147483647 : Int32)) % ((500001 : Int32) - ((p2 &&& (2147483647 : Int32)) % (500001 : Int32)))))) (4652007308841189376 : UInt64))), .second, .val (.ref bb_5), .val (.int (1 : Int32)), .val (.ref bb_9)] [(.double (FP.ddiv (FP.i2d ((p0 &&& (2147483647 : Int32)) % (500001 : Int32))) (4652007308841189376 : UInt64))), (.ref bb_5)])) _
    refine XS.dload X10.here hx rfl (hb hby at_114) rfl ?_
    show Steps p.tables e below (T10.setTop (mkF m 116 #[.val (.int p0), .val (.int p1), .val (.int p2), .val (.int p3), .val (.int ((p0 &&& (2147483647 : Int32)) % (500001 : Int32))), .val (.int (((p0 &&& (2147483647 : Int32)) % (500001 : Int32)) + ((p1 &&& (2147483647 : Int32)) % ((500001 : Int32) - ((p0 &&& (2147483647 : Int32)) % (500001 : Int32)))))), .val (.int ((p2 &&& (2147483647 : Int32)) % (500001 : Int32))), .val (.int (((p2 &&& (2147483647 : Int32)) % (500001 : Int32)) + ((p3 &&& (2147483647 : Int32)) % ((500001 : Int32) - ((p2 &&& (2147483647 : Int32)) % (500001 : Int32)))))), .val (.double (FP.ddiv (FP.i2d ((p0 &&& (2147483647 : Int32)) % (500001 : Int32))) (4652007308841189376 : UInt64))), .second, .val (.double (FP.ddiv (FP.i2d (((p0 &&& (2147483647 : Int32)) % (500001 : Int32)) + ((p1 &&& (2147483647 : Int32)) % ((500001 : Int32) - ((p0 &&& (2147483647 : Int32)) % (500001 : Int32)))))) (4652007308841189376 : UInt64))), .second, .val (.double (FP.ddiv (FP.i2d ((p2 &&& (2147483647 : Int32)) % (500001 : Int32))) (4652007308841189376 : UInt64))), .second, .val (.double (FP.ddiv (FP.i2d (((p2 &&& (2147483647 : Int32)) % (500001 : Int32)) + ((p3 &&& (2147483647 : Int32)) % ((500001 : Int32) - ((p2 &&& (2147483647 : Int32)) % (500001 : Int32)))))) (4652007308841189376 : UInt64))), .second, .val (.ref bb_5), .val (.int (1 : Int32)), .val (.ref bb_9)] [(.double (FP.ddiv (FP.i2d (((p0 &&& (2147483647 : Int32)) % (500001 : Int32)) + ((p1 &&& (2147483647 : Int32)) % ((500001 : Int32) - ((p0 &&& (2147483647 : Int32)) % (500001 : Int32)))))) (4652007308841189376 : UInt64))), (.double (FP.ddiv (FP.i2d ((p0 &&& (2147483647 : Int32)) % (500001 : Int32))) (4652007308841189376 : UInt64))), (.ref bb_5)])) _
    refine st13 _ ?_
    show Steps p.tables e below (T13.setTop (mkF m 119 #[.val (.int p0), .val (.int p1), .val (.int p2), .val (.int p3), .val (.int ((p0 &&& (2147483647 : Int32)) % (500001 : Int32))), .val (.int (((p0 &&& (2147483647 : Int32)) % (500001 : Int32)) + ((p1 &&& (2147483647 : Int32)) % ((500001 : Int32) - ((p0 &&& (2147483647 : Int32)) % (500001 : Int32)))))), .val (.int ((p2 &&& (2147483647 : Int32)) % (500001 : Int32))), .val (.int (((p2 &&& (2147483647 : Int32)) % (500001 : Int32)) + ((p3 &&& (2147483647 : Int32)) % ((500001 : Int32) - ((p2 &&& (2147483647 : Int32)) % (500001 : Int32)))))), .val (.double (FP.ddiv (FP.i2d ((p0 &&& (2147483647 : Int32)) % (500001 : Int32))) (4652007308841189376 : UInt64))), .second, .val (.double (FP.ddiv (FP.i2d (((p0 &&& (2147483647 : Int32)) % (500001 : Int32)) + ((p1 &&& (2147483647 : Int32)) % ((500001 : Int32) - ((p0 &&& (2147483647 : Int32)) % (500001 : Int32)))))) (4652007308841189376 : UInt64))), .second, .val (.double (FP.ddiv (FP.i2d ((p2 &&& (2147483647 : Int32)) % (500001 : Int32))) (4652007308841189376 : UInt64))), .second, .val (.double (FP.ddiv (FP.i2d (((p2 &&& (2147483647 : Int32)) % (500001 : Int32)) + ((p3 &&& (2147483647 : Int32)) % ((500001 : Int32) - ((p2 &&& (2147483647 : Int32)) % (500001 : Int32)))))) (4652007308841189376 : UInt64))), .second, .val (.ref bb_5), .val (.int (1 : Int32)), .val (.ref bb_9)] [(.int (1 : Int32))])) _
    refine XS.ifNo X13.here hx rfl (hb hby at_119) rfl (by decide) ?_
    show Steps p.tables e below (T13.setTop (mkF m 122 #[.val (.int p0), .val (.int p1), .val (.int p2), .val (.int p3), .val (.int ((p0 &&& (2147483647 : Int32)) % (500001 : Int32))), .val (.int (((p0 &&& (2147483647 : Int32)) % (500001 : Int32)) + ((p1 &&& (2147483647 : Int32)) % ((500001 : Int32) - ((p0 &&& (2147483647 : Int32)) % (500001 : Int32)))))), .val (.int ((p2 &&& (2147483647 : Int32)) % (500001 : Int32))), .val (.int (((p2 &&& (2147483647 : Int32)) % (500001 : Int32)) + ((p3 &&& (2147483647 : Int32)) % ((500001 : Int32) - ((p2 &&& (2147483647 : Int32)) % (500001 : Int32)))))), .val (.double (FP.ddiv (FP.i2d ((p0 &&& (2147483647 : Int32)) % (500001 : Int32))) (4652007308841189376 : UInt64))), .second, .val (.double (FP.ddiv (FP.i2d (((p0 &&& (2147483647 : Int32)) % (500001 : Int32)) + ((p1 &&& (2147483647 : Int32)) % ((500001 : Int32) - ((p0 &&& (2147483647 : Int32)) % (500001 : Int32)))))) (4652007308841189376 : UInt64))), .second, .val (.double (FP.ddiv (FP.i2d ((p2 &&& (2147483647 : Int32)) % (500001 : Int32))) (4652007308841189376 : UInt64))), .second, .val (.double (FP.ddiv (FP.i2d (((p2 &&& (2147483647 : Int32)) % (500001 : Int32)) + ((p3 &&& (2147483647 : Int32)) % ((500001 : Int32) - ((p2 &&& (2147483647 : Int32)) % (500001 : Int32)))))) (4652007308841189376 : UInt64))), .second, .val (.ref bb_5), .val (.int (1 : Int32)), .val (.ref bb_9)] [])) _
    refine XS.iconst X13.here hx rfl (hb hby at_122) ?_
    show Steps p.tables e below (T13.setTop (mkF m 123 #[.val (.int p0), .val (.int p1), .val (.int p2), .val (.int p3), .val (.int ((p0 &&& (2147483647 : Int32)) % (500001 : Int32))), .val (.int (((p0 &&& (2147483647 : Int32)) % (500001 : Int32)) + ((p1 &&& (2147483647 : Int32)) % ((500001 : Int32) - ((p0 &&& (2147483647 : Int32)) % (500001 : Int32)))))), .val (.int ((p2 &&& (2147483647 : Int32)) % (500001 : Int32))), .val (.int (((p2 &&& (2147483647 : Int32)) % (500001 : Int32)) + ((p3 &&& (2147483647 : Int32)) % ((500001 : Int32) - ((p2 &&& (2147483647 : Int32)) % (500001 : Int32)))))), .val (.double (FP.ddiv (FP.i2d ((p0 &&& (2147483647 : Int32)) % (500001 : Int32))) (4652007308841189376 : UInt64))), .second, .val (.double (FP.ddiv (FP.i2d (((p0 &&& (2147483647 : Int32)) % (500001 : Int32)) + ((p1 &&& (2147483647 : Int32)) % ((500001 : Int32) - ((p0 &&& (2147483647 : Int32)) % (500001 : Int32)))))) (4652007308841189376 : UInt64))), .second, .val (.double (FP.ddiv (FP.i2d ((p2 &&& (2147483647 : Int32)) % (500001 : Int32))) (4652007308841189376 : UInt64))), .second, .val (.double (FP.ddiv (FP.i2d (((p2 &&& (2147483647 : Int32)) % (500001 : Int32)) + ((p3 &&& (2147483647 : Int32)) % ((500001 : Int32) - ((p2 &&& (2147483647 : Int32)) % (500001 : Int32)))))) (4652007308841189376 : UInt64))), .second, .val (.ref bb_5), .val (.int (1 : Int32)), .val (.ref bb_9)] [(.int (1 : Int32))])) _
    refine XS.goto X13.here hx rfl (pc0 := 123) (pc' := 127) rfl (hb hby at_123) (by decide) (by decide) ?_
    show Steps p.tables e below (T13.setTop (mkF m 127 #[.val (.int p0), .val (.int p1), .val (.int p2), .val (.int p3), .val (.int ((p0 &&& (2147483647 : Int32)) % (500001 : Int32))), .val (.int (((p0 &&& (2147483647 : Int32)) % (500001 : Int32)) + ((p1 &&& (2147483647 : Int32)) % ((500001 : Int32) - ((p0 &&& (2147483647 : Int32)) % (500001 : Int32)))))), .val (.int ((p2 &&& (2147483647 : Int32)) % (500001 : Int32))), .val (.int (((p2 &&& (2147483647 : Int32)) % (500001 : Int32)) + ((p3 &&& (2147483647 : Int32)) % ((500001 : Int32) - ((p2 &&& (2147483647 : Int32)) % (500001 : Int32)))))), .val (.double (FP.ddiv (FP.i2d ((p0 &&& (2147483647 : Int32)) % (500001 : Int32))) (4652007308841189376 : UInt64))), .second, .val (.double (FP.ddiv (FP.i2d (((p0 &&& (2147483647 : Int32)) % (500001 : Int32)) + ((p1 &&& (2147483647 : Int32)) % ((500001 : Int32) - ((p0 &&& (2147483647 : Int32)) % (500001 : Int32)))))) (4652007308841189376 : UInt64))), .second, .val (.double (FP.ddiv (FP.i2d ((p2 &&& (2147483647 : Int32)) % (500001 : Int32))) (4652007308841189376 : UInt64))), .second, .val (.double (FP.ddiv (FP.i2d (((p2 &&& (2147483647 : Int32)) % (500001 : Int32)) + ((p3 &&& (2147483647 : Int32)) % ((500001 : Int32) - ((p2 &&& (2147483647 : Int32)) % (500001 : Int32)))))) (4652007308841189376 : UInt64))), .second, .val (.ref bb_5), .val (.int (1 : Int32)), .val (.ref bb_9)] [(.int (1 : Int32))])) _
    exact retN X13 hx (t := .boolean) Bd.returns (by simp) (hb hby at_127) hr
  · show Q0 Z p0 p1 p2 p3 u0 h0 n0 _ T13.heap _
    rw [eh13]
    exact ⟨N13, rfl⟩
set_option maxRecDepth 65536 in
set_option maxHeartbeats 40000000 in
theorem comes_1 {Post : Tables → Env → Array Value → State → Outcome → State → Prop} (hpost : ∀ tb e args s v u, (limb_1_1.after args s (.returned v) u = true ∧ limb_1_2.after args s (.returned v) u = true ∧ True) → FrameEnd s (.returned v) u (Jvm.fieldLocs frame_1_writes args s ++ Jvm.arrayLocs frame_1_arrays args s ++ Jvm.staticLocs frame_1_statics s) 16 128 → Post tb e args s (.returned v) u) :
    ArmFor flags0 classFile x code maxLocals ret World_1 tables_1 room_1 Calls_1 rest_1 Pre_1 Post := by
  intro l hfl _ _ p e ha hc hk s m args below hf hA hF happ hP
  obtain ⟨hcalls, hrest, hpre⟩ := hP
  obtain ⟨-, -, -, hnamed, -, -, -, hat⟩ := (Spec.applies_iff hf).mp happ
  obtain ⟨hg, hn⟩ := and_e (Cond.before_iff.mp (show (Jvm.Cond.and given_1 narrow_1).before args s = true from hpre))
  obtain ⟨gv1, gv2⟩ := and_e hg
  obtain ⟨gv3, gv4⟩ := and_e gv2
  obtain ⟨gv5, gv6⟩ := and_e gv4
  obtain ⟨gv7, gv8⟩ := and_e gv6
  obtain ⟨w0, w1, w2, w3, rfl⟩ : ∃ w0 w1 w2 w3 : Value, args = #[w0, w1, w2, w3] := by
    have hs : args.size = 4 := by simpa [Cond.value, given_1] using gv1
    obtain ⟨L⟩ := args
    match L, hs with
    | [w0, w1, w2, w3], _ => exact ⟨w0, w1, w2, w3, rfl⟩
  have hw := fun d (hd : d ∈ tables_1) => atoms_spec (ws := Jvm.Cond.code x code maxLocals ret :: tables_1) hat d (List.mem_cons_of_mem _ hd)
  have hfit : Fit s := fun {y c} hc i hi => by
    obtain ⟨ha, rfl⟩ := Array.getElem?_eq_some_iff.mp hc
    have q := List.all_eq_true.mp ((Array.all_eq_true_iff_forall_mem.mp hF) _ (Array.getElem_mem ha)) i (List.mem_range.mpr hi)
    simpa [Array.getElem?_eq_getElem hi] using q
  obtain ⟨i0, ei0⟩ := is_v gv3
  obtain rfl : w0 = (.int i0) := Option.some.inj ei0
  obtain ⟨i1, ei1⟩ := is_v gv5
  obtain rfl : w1 = (.int i1) := Option.some.inj ei1
  obtain ⟨i2, ei2⟩ := is_v gv7
  obtain rfl : w2 = (.int i2) := Option.some.inj ei2
  obtain ⟨i3, ei3⟩ := is_v gv8
  obtain rfl : w3 = (.int i3) := Option.some.inj ei3
  obtain ⟨u0, ev0⟩ := exa_v hn
  have hS0 : Sta s s.heap "com/example/wudaokou/wudaokou/guard/Policy$Decision$Kind" "BLUR" "Lcom/example/wudaokou/wudaokou/guard/Policy$Decision$Kind;" (.ref u0) := Sta.start ev0 (Or.inr ⟨(own_k hw 17 rfl), (own_k hw 18 rfl)⟩)
  obtain ⟨n, o, h1, h2, h3, _, L, rfl, ⟨N, rfl⟩, hq⟩ := rm0 l s _ hw tables_1 i0 i1 i2 i3 u0 s.heap s.heap.size (Nat.le_refl _) hS0 (Old.start s) p e ha hc hk s m _ below hf ((Spec.applies_iff_loose hf).mp happ).1 ⟨rfl, State.Warmed39.refl s, rfl⟩ trivial
  refine ⟨n, _, h1, h2, h3, hpost _ _ _ _ _ _ ⟨Cond.after_iff.mpr rfl, Cond.after_iff.mpr (eq_i res_at (Term.int_eval (1)) rfl), trivial⟩ ⟨hq.1, hq.2.1, (hq.2.2.sift fun y hy => Or.inr (N y hy)).mono (by decide) (by decide)⟩⟩
theorem main_1_1 : Claimed_1_1 := comes_1 fun _ _ _ _ _ _ h hF => ⟨h.1, hF⟩
theorem main_1_2 : Claimed_1_2 := comes_1 fun _ _ _ _ _ _ h hF => ⟨h.2.1, hF⟩
end Jvm.Pilot.@@N@@
namespace Jvm.Pilot.@@N@@
open Jvm Jvm.ClassFile Sem Op Lib Jvm.Free Jvm.Stand Jvm.Pilot.@@N@@.Jvm.D
/-! MADE BY PROGRAM (witnessworld.py) out of the Statement's table words and the real class files: 13 classes; the members and pool entries that the words name. The judged class is class 1, her method 4. -/
namespace start1
open Jvm.ClassFile
def u (s : String) : CpInfo := .utf8 (stringToUtf16 s)
/-- a pool by its gaps: so many unusable entries, then the entry; so many at the end -/
def gap : Nat → List CpInfo → List CpInfo
  | 0, r => r
  | n + 1, r => .unusable :: gap n r
def poolList (es : List (Nat × CpInfo)) (last : Nat) : List CpInfo := es.foldr (fun e r => gap e.1 (e.2 :: r)) (gap last [])
def pool (es : List (Nat × CpInfo)) (last : Nat) : Array CpInfo := ⟨poolList es last⟩
def fileOf (pool : Array CpInfo) (this : Nat) (attrs : Array Attribute := #[]) (ms : Array MethodInfo := #[]) (fl : Nat := 33) (sup : Nat := 0) (ifs : Array Nat := #[]) (fds : Array FieldInfo := #[]) : ClassFile where
  minorVersion := 0
  majorVersion := 65
  constantPool := pool
  accessFlags := fl
  thisClass := this
  superClass := sup
  interfaces := ifs
  fields := fds
  methods := ms
  attributes := attrs
def plain (name : String) (sup : Option ClassId) : Class where
  name := name
  kind := .ordinary
  loader := none
  accessFlags := 33
  super := sup
  interfaces := #[]
  cf := none
  fields := #[]
  methods := #[]
  instanceTypes := #[]
  staticTypes := #[]
  resolved := #[]
  callSites := []
  init := .initialized
  statics := none
  mirror := none

def pool0 : Array CpInfo := pool [(5, u "<init>"), (0, u "()V"), (1, .class_ 10), (1, u "java/lang/Object")] 113

def k0c0 : Code := { maxStack := 0, maxLocals := 1, code := object_method_1_code, exceptionTable := #[], attributes := #[] }
def k0m0 : Method := { name := "<init>", desc := "()V", sig := { parameters := [], returnType := none }, accessFlags := 1, code := some k0c0 }
/-- java/lang/Object -/
def k0 : Class := { plain "java/lang/Object" none with
  accessFlags := 33
  interfaces := #[]
  cf := some (fileOf pool0 8 #[] #[{ accessFlags := 1, nameIndex := 5, descriptorIndex := 6, attributes := #[] }] 33 0 #[] #[])
  fields := #[]
  methods := #[k0m0]
  instanceTypes := #[]
  staticTypes := #[]
  resolved := Array.replicate 124 none
  statics := none }

def pool1 : Array CpInfo := pool [(2, .class_ 4), (1, u "java/lang/Object"), (0, u "<init>"), (0, u "()V"), (0, .integer 2147483647), (0, .integer 500001), (0, .methodref 10 11), (0, .class_ 12), (0, .nameAndType 13 14), (0, u "com/example/wudaokou/wudaokou/guard/Policy$Decision"), (0, u "kind"), (0, u "()Lcom/example/wudaokou/wudaokou/guard/Policy$Decision$Kind;"), (0, .fieldref 16 17), (0, .class_ 18), (0, .nameAndType 19 20), (0, u "com/example/wudaokou/wudaokou/guard/Policy$Decision$Kind"), (0, u "BLUR"), (0, u "Lcom/example/wudaokou/wudaokou/guard/Policy$Decision$Kind;"), (0, .methodref 10 22), (0, .nameAndType 23 24), (0, u "minKm"), (0, u "()D"), (0, .methodref 10 26), (0, .nameAndType 27 24), (0, u "maxKm"), (0, .methodref 29 30), (0, .class_ 31), (0, .nameAndType 32 33), (0, u "com/example/wudaokou/wudaokou/guard/DecisionBlurPinLaw"), (0, u "low"), (0, u "(I)I"), (0, .methodref 29 35), (0, .nameAndType 36 37), (0, u "high"), (0, u "(II)I"), (0, .double 4652007308841189376), (1, .methodref 10 41), (0, .nameAndType 42 43), (0, u "blur"), (0, u "(DD)Lcom/example/wudaokou/wudaokou/guard/Policy$Decision;"), (0, .methodref 29 45), (0, .nameAndType 46 47), (0, u "holds"), (0, u "(Lcom/example/wudaokou/wudaokou/guard/Policy$Decision;DD)Z"), (3, u "law"), (0, u "(IIII)Z")] 7

def k1m0 : Method := { name := "<init>", desc := "()V", sig := { parameters := [], returnType := none }, accessFlags := 2, code := none }
def k1c1 : Code := { maxStack := 2, maxLocals := 1, code := method_2_code, exceptionTable := #[], attributes := #[] }
def k1m1 : Method := { name := "low", desc := "(I)I", sig := { parameters := [.int], returnType := some .int }, accessFlags := 10, code := some k1c1 }
def k1c2 : Code := { maxStack := 4, maxLocals := 2, code := method_3_code, exceptionTable := #[], attributes := #[] }
def k1m2 : Method := { name := "high", desc := "(II)I", sig := { parameters := [.int, .int], returnType := some .int }, accessFlags := 10, code := some k1c2 }
def k1c3 : Code := { maxStack := 4, maxLocals := 5, code := method_4_code, exceptionTable := #[], attributes := #[] }
def k1m3 : Method := { name := "holds", desc := "(Lcom/example/wudaokou/wudaokou/guard/Policy$Decision;DD)Z", sig := { parameters := [(.object "com/example/wudaokou/wudaokou/guard/Policy$Decision"), .double, .double], returnType := some .boolean }, accessFlags := 10, code := some k1c3 }
def k1c4 : Code := { maxStack := 5, maxLocals := 19, code := code, exceptionTable := #[], attributes := #[] }
def k1m4 : Method := { name := "law", desc := "(IIII)Z", sig := { parameters := [.int, .int, .int, .int], returnType := some .boolean }, accessFlags := 9, code := some k1c4 }
/-- com/example/wudaokou/wudaokou/guard/DecisionBlurPinLaw -/
def k1 : Class := { plain "com/example/wudaokou/wudaokou/guard/DecisionBlurPinLaw" (some 0) with
  accessFlags := 49
  interfaces := #[]
  cf := some (fileOf pool1 29 #[] #[{ accessFlags := 2, nameIndex := 5, descriptorIndex := 6, attributes := #[] }, { accessFlags := 10, nameIndex := 32, descriptorIndex := 33, attributes := #[] }, { accessFlags := 10, nameIndex := 36, descriptorIndex := 37, attributes := #[] }, { accessFlags := 10, nameIndex := 46, descriptorIndex := 47, attributes := #[] }, { accessFlags := 9, nameIndex := 51, descriptorIndex := 52, attributes := #[] }] 49 2 #[] #[])
  fields := #[]
  methods := #[k1m0, k1m1, k1m2, k1m3, k1m4]
  instanceTypes := #[]
  staticTypes := #[]
  resolved := Array.replicate 60 none
  statics := none }

def pool2 : Array CpInfo := pool [(1, .methodref 2 3), (0, .class_ 4), (0, .nameAndType 5 6), (0, u "java/lang/Object"), (0, u "<init>"), (0, u "()V"), (0, .fieldref 8 9), (0, .class_ 10), (0, .nameAndType 11 12), (0, u "com/example/wudaokou/wudaokou/guard/Policy$Decision"), (0, u "kind"), (0, u "Lcom/example/wudaokou/wudaokou/guard/Policy$Decision$Kind;"), (0, .fieldref 8 14), (0, .nameAndType 15 16), (0, u "minKm"), (0, u "D"), (0, .fieldref 8 18), (0, .nameAndType 19 16), (0, u "maxKm"), (0, .fieldref 21 22), (0, .class_ 23), (0, .nameAndType 24 12), (0, u "com/example/wudaokou/wudaokou/guard/Policy$Decision$Kind"), (0, u "BLUR"), (0, .methodref 8 26), (0, .nameAndType 5 27), (0, u "(Lcom/example/wudaokou/wudaokou/guard/Policy$Decision$Kind;DD)V"), (31, u "ROUNDINGS"), (0, u "[Ljava/math/RoundingMode;"), (12, u "()D"), (5, u "ALLOW"), (2, u "Lcom/example/wudaokou/wudaokou/guard/Policy$Decision;"), (2, u "DENY"), (16, u "blur"), (0, u "(DD)Lcom/example/wudaokou/wudaokou/guard/Policy$Decision;"), (0, u "()Lcom/example/wudaokou/wudaokou/guard/Policy$Decision$Kind;"), (6, .class_ 112), (0, u "com/example/wudaokou/wudaokou/guard/Policy")] 17

def k2c0 : Code := { maxStack := 3, maxLocals := 6, code := prog_9_method_1_code, exceptionTable := #[], attributes := #[] }
def k2m0 : Method := { name := "<init>", desc := "(Lcom/example/wudaokou/wudaokou/guard/Policy$Decision$Kind;DD)V", sig := { parameters := [(.object "com/example/wudaokou/wudaokou/guard/Policy$Decision$Kind"), .double, .double], returnType := none }, accessFlags := 2, code := some k2c0 }
def k2c1 : Code := { maxStack := 7, maxLocals := 4, code := prog_9_method_2_code, exceptionTable := #[], attributes := #[] }
def k2m1 : Method := { name := "blur", desc := "(DD)Lcom/example/wudaokou/wudaokou/guard/Policy$Decision;", sig := { parameters := [.double, .double], returnType := some (.object "com/example/wudaokou/wudaokou/guard/Policy$Decision") }, accessFlags := 8, code := some k2c1 }
def k2c2 : Code := { maxStack := 1, maxLocals := 1, code := prog_9_method_3_code, exceptionTable := #[], attributes := #[] }
def k2m2 : Method := { name := "kind", desc := "()Lcom/example/wudaokou/wudaokou/guard/Policy$Decision$Kind;", sig := { parameters := [], returnType := some (.object "com/example/wudaokou/wudaokou/guard/Policy$Decision$Kind") }, accessFlags := 1, code := some k2c2 }
def k2c3 : Code := { maxStack := 2, maxLocals := 1, code := prog_9_method_4_code, exceptionTable := #[], attributes := #[] }
def k2m3 : Method := { name := "minKm", desc := "()D", sig := { parameters := [], returnType := some .double }, accessFlags := 1, code := some k2c3 }
def k2c4 : Code := { maxStack := 2, maxLocals := 1, code := prog_9_method_5_code, exceptionTable := #[], attributes := #[] }
def k2m4 : Method := { name := "maxKm", desc := "()D", sig := { parameters := [], returnType := some .double }, accessFlags := 1, code := some k2c4 }
/-- com/example/wudaokou/wudaokou/guard/Policy$Decision -/
def k2 : Class := { plain "com/example/wudaokou/wudaokou/guard/Policy$Decision" (some 0) with
  accessFlags := 33
  interfaces := #[]
  cf := some (fileOf pool2 8 #[.nestHost 111] #[{ accessFlags := 2, nameIndex := 5, descriptorIndex := 27, attributes := #[] }, { accessFlags := 8, nameIndex := 102, descriptorIndex := 103, attributes := #[] }, { accessFlags := 1, nameIndex := 11, descriptorIndex := 104, attributes := #[] }, { accessFlags := 1, nameIndex := 15, descriptorIndex := 73, attributes := #[] }, { accessFlags := 1, nameIndex := 19, descriptorIndex := 73, attributes := #[] }] 33 2 #[] #[{ accessFlags := 25, nameIndex := 79, descriptorIndex := 82, attributes := #[] }, { accessFlags := 25, nameIndex := 85, descriptorIndex := 82, attributes := #[] }, { accessFlags := 26, nameIndex := 59, descriptorIndex := 60, attributes := #[] }, { accessFlags := 18, nameIndex := 11, descriptorIndex := 12, attributes := #[] }, { accessFlags := 18, nameIndex := 15, descriptorIndex := 16, attributes := #[] }, { accessFlags := 18, nameIndex := 19, descriptorIndex := 16, attributes := #[] }])
  fields := #[{ name := "ALLOW", type := (.object "com/example/wudaokou/wudaokou/guard/Policy$Decision"), accessFlags := 25, slot := 0, constantValue := 0 }, { name := "DENY", type := (.object "com/example/wudaokou/wudaokou/guard/Policy$Decision"), accessFlags := 25, slot := 1, constantValue := 0 }, { name := "ROUNDINGS", type := (.array (.object "java/math/RoundingMode")), accessFlags := 26, slot := 2, constantValue := 0 }, { name := "kind", type := (.object "com/example/wudaokou/wudaokou/guard/Policy$Decision$Kind"), accessFlags := 18, slot := 0, constantValue := 0 }, { name := "minKm", type := .double, accessFlags := 18, slot := 1, constantValue := 0 }, { name := "maxKm", type := .double, accessFlags := 18, slot := 2, constantValue := 0 }]
  methods := #[k2m0, k2m1, k2m2, k2m3, k2m4]
  instanceTypes := #[(.object "com/example/wudaokou/wudaokou/guard/Policy$Decision$Kind"), .double, .double]
  staticTypes := #[(.object "com/example/wudaokou/wudaokou/guard/Policy$Decision"), (.object "com/example/wudaokou/wudaokou/guard/Policy$Decision"), (.array (.object "java/math/RoundingMode"))]
  resolved := Array.replicate 130 none
  statics := none }

def pool3 : Array CpInfo := pool [(1, .class_ 2), (0, u "java/lang/constant/Constable"), (0, .class_ 4), (0, u "java/lang/Object")] 6

/-- java/lang/constant/Constable -/
def k3 : Class := { plain "java/lang/constant/Constable" (some 0) with
  accessFlags := 1537
  interfaces := #[]
  cf := some (fileOf pool3 1 #[] #[] 1537 3 #[] #[])
  fields := #[]
  methods := #[]
  instanceTypes := #[]
  staticTypes := #[]
  resolved := Array.replicate 11 none
  statics := none }

def pool4 : Array CpInfo := pool [(1, .class_ 2), (0, u "java/lang/Comparable"), (0, .class_ 4), (0, u "java/lang/Object")] 7

/-- java/lang/Comparable -/
def k4 : Class := { plain "java/lang/Comparable" (some 0) with
  accessFlags := 1537
  interfaces := #[]
  cf := some (fileOf pool4 1 #[] #[] 1537 3 #[] #[])
  fields := #[]
  methods := #[]
  instanceTypes := #[]
  staticTypes := #[]
  resolved := Array.replicate 12 none
  statics := none }

def pool5 : Array CpInfo := pool [(1, .class_ 2), (0, u "java/io/Serializable"), (0, .class_ 4), (0, u "java/lang/Object")] 2

/-- java/io/Serializable -/
def k5 : Class := { plain "java/io/Serializable" (some 0) with
  accessFlags := 1537
  interfaces := #[]
  cf := some (fileOf pool5 1 #[] #[] 1537 3 #[] #[])
  fields := #[]
  methods := #[]
  instanceTypes := #[]
  staticTypes := #[]
  resolved := Array.replicate 7 none
  statics := none }

def pool6 : Array CpInfo := pool [(2, .class_ 4), (1, u "java/lang/Enum"), (0, u "name"), (0, u "Ljava/lang/String;"), (2, u "ordinal"), (0, u "I"), (1, .class_ 14), (1, u "java/lang/Object"), (4, u "hash"), (86, .class_ 108), (1, u "java/lang/Enum$EnumDesc"), (2, .class_ 112), (0, u "java/lang/constant/Constable"), (0, .class_ 114), (0, u "java/lang/Comparable"), (0, .class_ 116), (0, u "java/io/Serializable")] 87

/-- java/lang/Enum -/
def k6 : Class := { plain "java/lang/Enum" (some 0) with
  accessFlags := 1057
  interfaces := #[3, 4, 5]
  cf := some (fileOf pool6 2 #[.nestMembers #[106]] #[] 1057 12 #[111, 113, 115] #[{ accessFlags := 18, nameIndex := 5, descriptorIndex := 6, attributes := #[] }, { accessFlags := 18, nameIndex := 9, descriptorIndex := 10, attributes := #[] }, { accessFlags := 2, nameIndex := 19, descriptorIndex := 10, attributes := #[] }])
  fields := #[{ name := "name", type := (.object "java/lang/String"), accessFlags := 18, slot := 0, constantValue := 0 }, { name := "ordinal", type := .int, accessFlags := 18, slot := 1, constantValue := 0 }, { name := "hash", type := .int, accessFlags := 2, slot := 2, constantValue := 0 }]
  methods := #[]
  instanceTypes := #[(.object "java/lang/String"), .int, .int]
  staticTypes := #[]
  resolved := Array.replicate 204 none
  statics := none }

def pool7 : Array CpInfo := pool [(1, .class_ 2), (0, u "com/example/wudaokou/wudaokou/guard/Policy$Decision$Kind"), (2, u "ALLOW"), (0, u "Lcom/example/wudaokou/wudaokou/guard/Policy$Decision$Kind;"), (2, u "DENY"), (2, u "BLUR"), (2, u "$VALUES"), (0, u "[Lcom/example/wudaokou/wudaokou/guard/Policy$Decision$Kind;"), (6, .class_ 25), (1, u "java/lang/Enum"), (26, .class_ 53), (0, u "com/example/wudaokou/wudaokou/guard/Policy")] 5

/-- com/example/wudaokou/wudaokou/guard/Policy$Decision$Kind -/
def k7 : Class := { plain "com/example/wudaokou/wudaokou/guard/Policy$Decision$Kind" (some 6) with
  accessFlags := 16433
  interfaces := #[]
  cf := some (fileOf pool7 1 #[.nestHost 52] #[] 16433 23 #[] #[{ accessFlags := 16409, nameIndex := 5, descriptorIndex := 6, attributes := #[] }, { accessFlags := 16409, nameIndex := 9, descriptorIndex := 6, attributes := #[] }, { accessFlags := 16409, nameIndex := 12, descriptorIndex := 6, attributes := #[] }, { accessFlags := 4122, nameIndex := 15, descriptorIndex := 16, attributes := #[] }])
  fields := #[{ name := "ALLOW", type := (.object "com/example/wudaokou/wudaokou/guard/Policy$Decision$Kind"), accessFlags := 16409, slot := 0, constantValue := 0 }, { name := "DENY", type := (.object "com/example/wudaokou/wudaokou/guard/Policy$Decision$Kind"), accessFlags := 16409, slot := 1, constantValue := 0 }, { name := "BLUR", type := (.object "com/example/wudaokou/wudaokou/guard/Policy$Decision$Kind"), accessFlags := 16409, slot := 2, constantValue := 0 }, { name := "$VALUES", type := (.array (.object "com/example/wudaokou/wudaokou/guard/Policy$Decision$Kind")), accessFlags := 4122, slot := 3, constantValue := 0 }]
  methods := #[]
  instanceTypes := #[(.object "java/lang/String"), .int, .int]
  staticTypes := #[(.object "com/example/wudaokou/wudaokou/guard/Policy$Decision$Kind"), (.object "com/example/wudaokou/wudaokou/guard/Policy$Decision$Kind"), (.object "com/example/wudaokou/wudaokou/guard/Policy$Decision$Kind"), (.array (.object "com/example/wudaokou/wudaokou/guard/Policy$Decision$Kind"))]
  resolved := Array.replicate 59 none
  statics := some 0 }

def pool8 : Array CpInfo := pool [(1, u "java/lang/Cloneable"), (0, .class_ 1), (0, u "java/lang/Object"), (0, .class_ 3)] 3

/-- java/lang/Cloneable -/
def k8 : Class := { plain "java/lang/Cloneable" (some 0) with
  accessFlags := 1537
  interfaces := #[]
  cf := some (fileOf pool8 2 #[] #[] 1537 4 #[] #[])
  fields := #[]
  methods := #[]
  instanceTypes := #[]
  staticTypes := #[]
  resolved := Array.replicate 8 none
  statics := none }

/-- the primitive byte -/
def k9 : Class := { plain "byte" none with kind := .primitive 'B', accessFlags := 0x411 }
/-- [B -/
def k10 : Class := { plain "[B" (some 0) with kind := .array 9 .byte, interfaces := #[8, 5], accessFlags := 1041 }

/-- the primitive int -/
def k11 : Class := { plain "int" none with kind := .primitive 'I', accessFlags := 0x411 }
/-- [I -/
def k12 : Class := { plain "[I" (some 0) with kind := .array 11 .int, interfaces := #[8, 5], accessFlags := 1041 }

def heap : Heap := #[{ cls := 7, slots := #[.null, .null, .ref 1, .null], vm := .statics 7 },
  { cls := 7, slots := #[.null, .int 0, .int 0], vm := .none }]
def classes : Array Class := #[k0, k1, k2, k3, k4, k5, k6, k7, k8, k9, k10, k11, k12]
def interned : List (Array UInt16 × Addr) := []
def slotsUsed : Nat := 7
def theMethod : MethodId := ⟨1, 4⟩
def args0 : Array Value := #[.int 5, .int 3, .int 100, .int 7]
def aboutOver (below : List Frame) : State where
  vm := { classes := classes, interned := interned.toArray }
  heap := heap
  slotsUsed := slotsUsed
  threads := #[{ frames := .invoking theMethod args0 :: below }]
def below0 : List Frame := [.native { method := ⟨0, 0⟩, args := #[] }]
def about1 : State := aboutOver below0
def p0 : Program := .bare "" "" ""
def e0 : Env := launch0.env 0 0 0
theorem w_frames : about1.frames = Frame.invoking theMethod args0 :: below0 := rfl
set_option maxRecDepth 65536 in
theorem w_args : argsFit about1.vm theMethod args0 = true := by decide +kernel
set_option maxRecDepth 65536 in
theorem w_heap : heapFits about1 = true := by decide +kernel
set_option maxRecDepth 65536 in
theorem w_runnable : about1.curStatus? = some .runnable := by decide +kernel
set_option maxRecDepth 65536 in
theorem w_alone : about1.alone = true := by decide +kernel
set_option maxRecDepth 65536 in
theorem w_named : about1.methodNamed? x = some theMethod := by decide +kernel
set_option maxRecDepth 65536 in
theorem w_hears : about1.hears theMethod below0 = true := by decide +kernel
set_option maxRecDepth 65536 in
theorem w_ripe : about1.ripe theMethod args0 below0 = true := by decide +kernel
theorem w_running : about1.status = .running := rfl
set_option maxRecDepth 65536 in
theorem w_room : about1.hasRoom e0.platform room_1 = true :=
  launch0.hasRoom_least _ room_1 (by decide +kernel) (by decide +kernel) (by decide +kernel) (by decide +kernel) (by decide +kernel) (by decide +kernel)
theorem allAtoms_all (ts : List Jvm.Cond) (a : Array Jvm.Value) (st : Jvm.State) : (allAtoms ts).before a st = ts.all (fun c => c.before a st) := by
  induction ts with
  | nil => rfl
  | cons c t ih =>
    show (Jvm.Cond.and c (allAtoms t)).before a st = _
    rw [Jvm.Cond.before_and, ih, List.all_cons]
def words1 : List Jvm.Cond := Jvm.Cond.code x code maxLocals ret :: tables_1
/-- a 'code' word, met by the world's own term for the bytes: nothing is compared byte by byte -/
theorem code_word {y : MethodName} {bytes : ByteArray} {mx : Nat} {rt : Option FieldType} {a : Array Value} {s : State} {m : MethodId} {meth : Method} {c : Code} (h1 : s.methodNamed? y = some m) (h2 : s.vm.method? m = some meth) (h3 : meth.code = some c) (h4 : c.code = bytes)
    (h5 : (c.maxLocals == mx && c.exceptionTable.isEmpty && decide (c.maxStack ≤ mostOperands) && decide (meth.sig.returnType = rt) && !meth.locks && decide (parseMethodDescriptor y.desc = some meth.sig)) = true) : (Jvm.Cond.code y bytes mx rt).before a s = true := by
  simp only [Bool.and_eq_true, beq_iff_eq, Bool.not_eq_true', decide_eq_true_eq] at h5
  obtain ⟨⟨⟨⟨⟨g1, g2⟩, g3⟩, g4⟩, g5⟩, g6⟩ := h5
  simp [Cond.before, Cond.holds, Cond.value, h1, h2, h3, h4, g1, g2, g3, g4, g5, g6]
def isCode : Jvm.Cond → Bool
  | .code _ _ _ _ => true
  | _ => false
theorem all_split {L : List Jvm.Cond} {P : Jvm.Cond → Bool} (h1 : L.all (fun c => isCode c || P c) = true) (h2 : ∀ c ∈ L.filter isCode, P c = true) : L.all P = true := by
  refine List.all_eq_true.mpr fun c hc => ?_
  have h := List.all_eq_true.mp h1 c hc
  rcases Bool.eq_false_or_eq_true (isCode c) with hi | hi
  · exact h2 c (List.mem_filter.mpr ⟨hc, hi⟩)
  · simpa [hi] using h
set_option maxRecDepth 65536 in
theorem w_c0 : (Jvm.Cond.code x code maxLocals ret).before args0 about1 = true := code_word (m := ⟨1, 4⟩) (meth := k1m4) (c := k1c4) (by decide +kernel) rfl rfl rfl (by decide +kernel)
set_option maxRecDepth 65536 in
theorem w_c1 : (Jvm.Cond.code ({ cls := "com/example/wudaokou/wudaokou/guard/DecisionBlurPinLaw", name := "low", desc := "(I)I" } : Jvm.MethodName) method_2_code (1 : Nat) (Option.some Jvm.ClassFile.FieldType.int)).before args0 about1 = true := code_word (m := ⟨1, 1⟩) (meth := k1m1) (c := k1c1) (by decide +kernel) rfl rfl rfl (by decide +kernel)
set_option maxRecDepth 65536 in
theorem w_c2 : (Jvm.Cond.code ({ cls := "com/example/wudaokou/wudaokou/guard/DecisionBlurPinLaw", name := "high", desc := "(II)I" } : Jvm.MethodName) method_3_code (2 : Nat) (Option.some Jvm.ClassFile.FieldType.int)).before args0 about1 = true := code_word (m := ⟨1, 2⟩) (meth := k1m2) (c := k1c2) (by decide +kernel) rfl rfl rfl (by decide +kernel)
set_option maxRecDepth 65536 in
theorem w_c3 : (Jvm.Cond.code ({ cls := "com/example/wudaokou/wudaokou/guard/Policy$Decision", name := "blur", desc := "(DD)Lcom/example/wudaokou/wudaokou/guard/Policy$Decision;" } : Jvm.MethodName) prog_9_method_2_code (4 : Nat) (Option.some (Jvm.ClassFile.FieldType.object "com/example/wudaokou/wudaokou/guard/Policy$Decision"))).before args0 about1 = true := code_word (m := ⟨2, 1⟩) (meth := k2m1) (c := k2c1) (by decide +kernel) rfl rfl rfl (by decide +kernel)
set_option maxRecDepth 65536 in
theorem w_c4 : (Jvm.Cond.code ({ cls := "com/example/wudaokou/wudaokou/guard/Policy$Decision", name := "<init>", desc := "(Lcom/example/wudaokou/wudaokou/guard/Policy$Decision$Kind;DD)V" } : Jvm.MethodName) prog_9_method_1_code (6 : Nat) (Option.none : Option Jvm.ClassFile.FieldType)).before args0 about1 = true := code_word (m := ⟨2, 0⟩) (meth := k2m0) (c := k2c0) (by decide +kernel) rfl rfl rfl (by decide +kernel)
set_option maxRecDepth 65536 in
theorem w_c5 : (Jvm.Cond.code ({ cls := "java/lang/Object", name := "<init>", desc := "()V" } : Jvm.MethodName) object_method_1_code (1 : Nat) (Option.none : Option Jvm.ClassFile.FieldType)).before args0 about1 = true := code_word (m := ⟨0, 0⟩) (meth := k0m0) (c := k0c0) (by decide +kernel) rfl rfl rfl (by decide +kernel)
set_option maxRecDepth 65536 in
theorem w_c6 : (Jvm.Cond.code ({ cls := "com/example/wudaokou/wudaokou/guard/DecisionBlurPinLaw", name := "holds", desc := "(Lcom/example/wudaokou/wudaokou/guard/Policy$Decision;DD)Z" } : Jvm.MethodName) method_4_code (5 : Nat) (Option.some Jvm.ClassFile.FieldType.boolean)).before args0 about1 = true := code_word (m := ⟨1, 3⟩) (meth := k1m3) (c := k1c3) (by decide +kernel) rfl rfl rfl (by decide +kernel)
set_option maxRecDepth 65536 in
theorem w_c7 : (Jvm.Cond.code ({ cls := "com/example/wudaokou/wudaokou/guard/Policy$Decision", name := "kind", desc := "()Lcom/example/wudaokou/wudaokou/guard/Policy$Decision$Kind;" } : Jvm.MethodName) prog_9_method_3_code (1 : Nat) (Option.some (Jvm.ClassFile.FieldType.object "com/example/wudaokou/wudaokou/guard/Policy$Decision$Kind"))).before args0 about1 = true := code_word (m := ⟨2, 2⟩) (meth := k2m2) (c := k2c2) (by decide +kernel) rfl rfl rfl (by decide +kernel)
set_option maxRecDepth 65536 in
theorem w_c8 : (Jvm.Cond.code ({ cls := "com/example/wudaokou/wudaokou/guard/Policy$Decision", name := "minKm", desc := "()D" } : Jvm.MethodName) prog_9_method_4_code (1 : Nat) (Option.some Jvm.ClassFile.FieldType.double)).before args0 about1 = true := code_word (m := ⟨2, 3⟩) (meth := k2m3) (c := k2c3) (by decide +kernel) rfl rfl rfl (by decide +kernel)
set_option maxRecDepth 65536 in
theorem w_c9 : (Jvm.Cond.code ({ cls := "com/example/wudaokou/wudaokou/guard/Policy$Decision", name := "maxKm", desc := "()D" } : Jvm.MethodName) prog_9_method_5_code (1 : Nat) (Option.some Jvm.ClassFile.FieldType.double)).before args0 about1 = true := code_word (m := ⟨2, 4⟩) (meth := k2m4) (c := k2c4) (by decide +kernel) rfl rfl rfl (by decide +kernel)
def codes1 : List Jvm.Cond := [Jvm.Cond.code x code maxLocals ret, Jvm.Cond.code ({ cls := "com/example/wudaokou/wudaokou/guard/DecisionBlurPinLaw", name := "low", desc := "(I)I" } : Jvm.MethodName) method_2_code (1 : Nat) (Option.some Jvm.ClassFile.FieldType.int), Jvm.Cond.code ({ cls := "com/example/wudaokou/wudaokou/guard/DecisionBlurPinLaw", name := "high", desc := "(II)I" } : Jvm.MethodName) method_3_code (2 : Nat) (Option.some Jvm.ClassFile.FieldType.int), Jvm.Cond.code ({ cls := "com/example/wudaokou/wudaokou/guard/Policy$Decision", name := "blur", desc := "(DD)Lcom/example/wudaokou/wudaokou/guard/Policy$Decision;" } : Jvm.MethodName) prog_9_method_2_code (4 : Nat) (Option.some (Jvm.ClassFile.FieldType.object "com/example/wudaokou/wudaokou/guard/Policy$Decision")), Jvm.Cond.code ({ cls := "com/example/wudaokou/wudaokou/guard/Policy$Decision", name := "<init>", desc := "(Lcom/example/wudaokou/wudaokou/guard/Policy$Decision$Kind;DD)V" } : Jvm.MethodName) prog_9_method_1_code (6 : Nat) (Option.none : Option Jvm.ClassFile.FieldType), Jvm.Cond.code ({ cls := "java/lang/Object", name := "<init>", desc := "()V" } : Jvm.MethodName) object_method_1_code (1 : Nat) (Option.none : Option Jvm.ClassFile.FieldType), Jvm.Cond.code ({ cls := "com/example/wudaokou/wudaokou/guard/DecisionBlurPinLaw", name := "holds", desc := "(Lcom/example/wudaokou/wudaokou/guard/Policy$Decision;DD)Z" } : Jvm.MethodName) method_4_code (5 : Nat) (Option.some Jvm.ClassFile.FieldType.boolean), Jvm.Cond.code ({ cls := "com/example/wudaokou/wudaokou/guard/Policy$Decision", name := "kind", desc := "()Lcom/example/wudaokou/wudaokou/guard/Policy$Decision$Kind;" } : Jvm.MethodName) prog_9_method_3_code (1 : Nat) (Option.some (Jvm.ClassFile.FieldType.object "com/example/wudaokou/wudaokou/guard/Policy$Decision$Kind")), Jvm.Cond.code ({ cls := "com/example/wudaokou/wudaokou/guard/Policy$Decision", name := "minKm", desc := "()D" } : Jvm.MethodName) prog_9_method_4_code (1 : Nat) (Option.some Jvm.ClassFile.FieldType.double), Jvm.Cond.code ({ cls := "com/example/wudaokou/wudaokou/guard/Policy$Decision", name := "maxKm", desc := "()D" } : Jvm.MethodName) prog_9_method_5_code (1 : Nat) (Option.some Jvm.ClassFile.FieldType.double)]
set_option maxRecDepth 65536 in
theorem codes_eq : words1.filter isCode = codes1 := rfl
theorem w_codes : ∀ c ∈ words1.filter isCode, c.before args0 about1 = true := by
  rw [codes_eq]
  intro c hc
  simp only [codes1, List.mem_cons, List.not_mem_nil, or_false] at hc
  rcases hc with rfl | rfl | rfl | rfl | rfl | rfl | rfl | rfl | rfl | rfl
  · exact w_c0
  · exact w_c1
  · exact w_c2
  · exact w_c3
  · exact w_c4
  · exact w_c5
  · exact w_c6
  · exact w_c7
  · exact w_c8
  · exact w_c9
set_option maxRecDepth 65536 in
theorem w_t1 : (words1.take 24).all (fun c => isCode c || c.before args0 about1) = true := by decide +kernel
set_option maxRecDepth 65536 in
theorem w_t2 : ((words1.drop 24).take 24).all (fun c => isCode c || c.before args0 about1) = true := by decide +kernel
set_option maxRecDepth 65536 in
theorem w_t3 : ((words1.drop 24).drop 24).all (fun c => isCode c || c.before args0 about1) = true := by decide +kernel
theorem w_tables : (allAtoms (Jvm.Cond.code x code maxLocals ret :: tables_1)).before args0 about1 = true := by
  rw [allAtoms_all]
  show words1.all (fun c => c.before args0 about1) = true
  refine all_split ?_ w_codes
  rw [← List.take_append_drop 24 words1, List.all_append, w_t1, ← List.take_append_drop 24 (words1.drop 24), List.all_append, w_t2, w_t3]
  rfl
set_option maxRecDepth 65536 in
theorem w_case : (Jvm.Cond.and given_1 narrow_1).before args0 about1 = true := by decide +kernel
theorem w_applies : (headSpec (Jvm.Cond.code x code maxLocals ret :: tables_1) room_1).applies x e0.platform about1 = true :=
  (Spec.applies_iff w_frames).mpr ⟨w_running, w_runnable, w_alone, w_named, w_hears, w_ripe, w_room, w_tables⟩
theorem atStart : AtStart classFile x code maxLocals ret World_1 tables_1 room_1 Calls_1 rest_1 Pre_1 launch0 p0 e0 about1 theMethod args0 below0 :=
  ⟨lists_1, trivial, launch0.admits_env _ _ _, launch0.least_env, fairChoices_fair.cas, fairChoices_fair.clock, w_frames, w_args, w_heap, w_applies, trivial, trivial, w_case⟩
end start1
theorem witness_1 : WitnessClaimed_1 := ⟨start1.p0, start1.e0, start1.about1, start1.theMethod, start1.args0, start1.below0, start1.atStart⟩
end Jvm.Pilot.@@N@@
