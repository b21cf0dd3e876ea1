import JvmDerived
import JvmDerived.Pilot.@@N@@Statement
import JvmDerived.Pilot.@@N@@Code
set_option linter.unusedVariables false
set_option linter.unusedSimpArgs false
namespace Jvm.Pilot.@@N@@
open Jvm Jvm.ClassFile Sem Op Lib Jvm.Free Jvm.Stand Jvm.LawKit Jvm.RoadKit Bundle Jvm.Pilot.@@N@@.Jvm.D
theorem own_k {Z : State} {a0 : Array Value} (hw : ∀ d ∈ tables_1, d.before a0 Z = true) (i : Nat) {d : Jvm.Cond} (h : tables_1[i]? = some d) : d.before a0 Z = true := hw _ (List.mem_of_getElem? h)
theorem own_k5 (p0 : Int32) (h0 : ¬ ((p0 &&& (2147483647 : Int32)) % (6 : Int32)) = (0 : Int32)) (h1 : ¬ ((p0 &&& (2147483647 : Int32)) % (6 : Int32)) = (1 : Int32)) (h2 : ¬ ((p0 &&& (2147483647 : Int32)) % (6 : Int32)) = (2 : Int32)) (h3 : ¬ ((p0 &&& (2147483647 : Int32)) % (6 : Int32)) = (3 : Int32)) (h4 : ¬ ((p0 &&& (2147483647 : Int32)) % (6 : Int32)) = (4 : Int32)) : ((p0 &&& (2147483647 : Int32)) % (6 : Int32)) = (5 : Int32) := by
  have b := c_and p0 (2147483647 : Int32) (by decide)
  have r := (c_irem (p0 &&& (2147483647 : Int32)) (6 : Int32) 6 rfl).1 b.1
  simp only [← Int32.toInt_inj] at *
  rw [r] at *
  have e0 : (0 : Int32).toInt = 0 := rfl
  have e1 : (1 : Int32).toInt = 1 := rfl
  have e2 : (2 : Int32).toInt = 2 := rfl
  have e3 : (3 : Int32).toInt = 3 := rfl
  have e4 : (4 : Int32).toInt = 4 := rfl
  have e5 : (5 : Int32).toInt = 5 := rfl
  omega
theorem own_q_fin : Jvm.Free.Fl.Fin64 (4620693217682128896 : UInt64) := by unfold Jvm.Free.Fl.Fin64; decide
theorem own_q_nz : Jvm.Free.Fl.Nz64 (4620693217682128896 : UInt64) := by unfold Jvm.Free.Fl.Nz64; decide
theorem own_one : Jvm.Free.Fl.NoNaN64 (4607182418800017408 : UInt64) := by unfold Jvm.Free.Fl.NoNaN64; decide
theorem own_pn_0 : plainName "com/example/multilingual_query_search/multilingualquerysearch/scoring/StructuredQueryMethodTermFrequencyWeightPinLaw" = true := by first | (simp [plainName, overriddenIn]; done) | decide +kernel
theorem d1_0 : decode method_2_code 0 = .ok (.iload_n 0, 1) := by decide +kernel
theorem d1_1 : decode method_2_code 1 = .ok (.ifCond .ne 7, 3) := by decide +kernel
theorem d1_4 : decode method_2_code 4 = .ok (.getstatic 7, 3) := by decide +kernel
theorem d1_7 : decode method_2_code 7 = .ok (.areturn, 1) := by decide +kernel
theorem d1_8 : decode method_2_code 8 = .ok (.iload_n 0, 1) := by decide +kernel
theorem d1_9 : decode method_2_code 9 = .ok (.iconst 1, 1) := by decide +kernel
theorem d1_10 : decode method_2_code 10 = .ok (.if_icmp .ne 7, 3) := by decide +kernel
theorem d1_13 : decode method_2_code 13 = .ok (.getstatic 13, 3) := by decide +kernel
theorem d1_16 : decode method_2_code 16 = .ok (.areturn, 1) := by decide +kernel
theorem d1_17 : decode method_2_code 17 = .ok (.iload_n 0, 1) := by decide +kernel
theorem d1_18 : decode method_2_code 18 = .ok (.iconst 2, 1) := by decide +kernel
theorem d1_19 : decode method_2_code 19 = .ok (.if_icmp .ne 7, 3) := by decide +kernel
theorem d1_22 : decode method_2_code 22 = .ok (.getstatic 16, 3) := by decide +kernel
theorem d1_25 : decode method_2_code 25 = .ok (.areturn, 1) := by decide +kernel
theorem d1_26 : decode method_2_code 26 = .ok (.iload_n 0, 1) := by decide +kernel
theorem d1_27 : decode method_2_code 27 = .ok (.iconst 3, 1) := by decide +kernel
theorem d1_28 : decode method_2_code 28 = .ok (.if_icmp .ne 7, 3) := by decide +kernel
theorem d1_31 : decode method_2_code 31 = .ok (.getstatic 19, 3) := by decide +kernel
theorem d1_34 : decode method_2_code 34 = .ok (.areturn, 1) := by decide +kernel
theorem d1_35 : decode method_2_code 35 = .ok (.iload_n 0, 1) := by decide +kernel
theorem d1_36 : decode method_2_code 36 = .ok (.iconst 4, 1) := by decide +kernel
theorem d1_37 : decode method_2_code 37 = .ok (.if_icmp .ne 7, 3) := by decide +kernel
theorem d1_40 : decode method_2_code 40 = .ok (.getstatic 22, 3) := by decide +kernel
theorem d1_43 : decode method_2_code 43 = .ok (.areturn, 1) := by decide +kernel
theorem d1_44 : decode method_2_code 44 = .ok (.getstatic 25, 3) := by decide +kernel
theorem d1_47 : decode method_2_code 47 = .ok (.areturn, 1) := by decide +kernel
theorem ef_1 (m : MethodId) (q1 : Int32) : entryFrame m #[(.int q1)] 1 = mkF m 0 #[.val (.int q1)] [] := by first | (simp [entryFrame, mkF, argsToLocals, Value.category]; done) | rfl
def Q1 (Z : State) (q1 : Int32) (u0 : Addr) (u1 : Addr) (u2 : Addr) (u3 : Addr) (u4 : Addr) (u5 : Addr) (h0 : Heap) (n0 : Nat) (v : Option Value) (h : Heap) (L : List Loc) : Prop := Fr n0 L ∧ h = h0 ∧ ((v = some (.ref u0) ∧ q1 = (0 : Int32)) ∨ (v = some (.ref u1) ∧ q1 = (1 : Int32)) ∨ (v = some (.ref u2) ∧ q1 = (2 : Int32)) ∨ (v = some (.ref u3) ∧ q1 = (3 : Int32)) ∨ (v = some (.ref u4) ∧ q1 = (4 : Int32)) ∨ (v = some (.ref u5) ∧ ¬ (q1 = (0 : Int32)) ∧ ¬ (q1 = (1 : Int32)) ∧ ¬ (q1 = (2 : Int32)) ∧ ¬ (q1 = (3 : Int32)) ∧ ¬ (q1 = (4 : Int32))))
set_option maxRecDepth 65536 in
set_option maxHeartbeats 40000000 in
theorem rm1 (l : Launch) (Z : State) (a0 : Array Value) (hw : ∀ d ∈ tables_1, d.before a0 Z = true) (ws : List Jvm.Cond) (q1 : Int32) (u0 : Addr) (u1 : Addr) (u2 : Addr) (u3 : Addr) (u4 : Addr) (u5 : Addr) (h0 : Heap) (n0 : Nat) (Z0 : n0 ≤ h0.size) (hS0 : Sta Z Z.heap "com/example/multilingual_query_search/multilingualquerysearch/scoring/StructuredQueryMethod" "PIRKOLA" "Lcom/example/multilingual_query_search/multilingualquerysearch/scoring/StructuredQueryMethod;" (.ref u0)) (hS1 : Sta Z Z.heap "com/example/multilingual_query_search/multilingualquerysearch/scoring/StructuredQueryMethod" "KWOK" "Lcom/example/multilingual_query_search/multilingualquerysearch/scoring/StructuredQueryMethod;" (.ref u1)) (hS2 : Sta Z Z.heap "com/example/multilingual_query_search/multilingualquerysearch/scoring/StructuredQueryMethod" "MDF" "Lcom/example/multilingual_query_search/multilingualquerysearch/scoring/StructuredQueryMethod;" (.ref u2)) (hS3 : Sta Z Z.heap "com/example/multilingual_query_search/multilingualquerysearch/scoring/StructuredQueryMethod" "WDF" "Lcom/example/multilingual_query_search/multilingualquerysearch/scoring/StructuredQueryMethod;" (.ref u3)) (hS4 : Sta Z Z.heap "com/example/multilingual_query_search/multilingualquerysearch/scoring/StructuredQueryMethod" "WTF" "Lcom/example/multilingual_query_search/multilingualquerysearch/scoring/StructuredQueryMethod;" (.ref u4)) (hS5 : Sta Z Z.heap "com/example/multilingual_query_search/multilingualquerysearch/scoring/StructuredQueryMethod" "WTF_DF" "Lcom/example/multilingual_query_search/multilingualquerysearch/scoring/StructuredQueryMethod;" (.ref u5)) (hO : Old Z n0 h0) :
    MetFree l (⟨"com/example/multilingual_query_search/multilingualquerysearch/scoring/StructuredQueryMethodTermFrequencyWeightPinLaw", "pick", "(I)Lcom/example/multilingual_query_search/multilingualquerysearch/scoring/StructuredQueryMethod;"⟩ : MethodName) (head1 (Jvm.Cond.code (⟨"com/example/multilingual_query_search/multilingualquerysearch/scoring/StructuredQueryMethodTermFrequencyWeightPinLaw", "pick", "(I)Lcom/example/multilingual_query_search/multilingualquerysearch/scoring/StructuredQueryMethod;"⟩ : MethodName) method_2_code 1 (some (.object "com/example/multilingual_query_search/multilingualquerysearch/scoring/StructuredQueryMethod")) :: ws) ({ frames := 0, cells := 0, slots := 0, locals := 0 } : Room)) (fun a U => a = #[(.int q1)] ∧ Z.Warmed39 U.vm ∧ U.heap = h0) (fun _ _ _ _ _ => True) (fun _ U o U' => ∃ v L, o = .returned v ∧ Q1 Z q1 u0 u1 u2 u3 u4 u5 h0 n0 v U'.heap L ∧ FrameEnd U o U' L ({ frames := 0, cells := 0, slots := 0, locals := 0 } : Room).cells ({ frames := 0, cells := 0, slots := 0, locals := 0 } : Room).slots) := by
  refine MetFree.of_bodySF (plainFor_of_name own_pn_0) hisR ?_
  intro p e s m args below meth c s₁ Bd hml0 hP hK
  obtain ⟨rfl, hZ, hh⟩ := hP
  have hx := Bd.exec
  have hby := Bd.bytes
  have hml : c.maxLocals = 1 := hml0
  have hown : s.vm.findClass "com/example/multilingual_query_search/multilingualquerysearch/scoring/StructuredQueryMethodTermFrequencyWeightPinLaw" = some m.cls := findClass_of_methodNamed Bd.named
  have hnm := (name_of_methodNamed Bd.named Bd.method).1
  have X0 : Stand p l e ({ frames := 0, cells := 0, slots := 0, locals := 0 } : Room) s m #[(.int q1)] below meth c s₁ [] 0 0 := Stand.of_body Bd
  have e0 : s₁.heap = h0 := by rw [← hh, Bd.state]; rfl
  have N0 := Fr.nil n0
  have pre0 : ∀ t, Steps p.tables e below (s₁.setTop (mkF m 0 #[.val (.int q1)] [])) t → Steps p.tables e below (s₁.setTop (entryFrame m #[(.int q1)] 1)) t := fun t k => castTop (ef_1 m q1) k
  have pre1 : ∀ t, Steps p.tables e below (s₁.setTop (mkF m 1 #[.val (.int q1)] [(.int q1)])) t → Steps p.tables e below (s₁.setTop (entryFrame m #[(.int q1)] 1)) t := fun t kt => pre0 t (by
    show Steps p.tables e below (s₁.setTop (mkF m 0 #[.val (.int q1)] [])) _
    refine XS.iloadN X0.here hx rfl (hb hby d1_0) rfl ?_
    exact kt)
  by_cases hc2 : q1 = (0 : Int32)
  · skip
    obtain ⟨T3, X3, e3, st3⟩ := getS2 X0 hx hZ hown (host := "") (Or.inl (own_k hw 5 rfl)) Via.refl e0 (hS0.ext hO.2) (g := (mkF m 4 #[.val (.int q1)] [])) rfl (hb hby d1_4)
    obtain ⟨fs, hr, hrun, hended, hW, hsame⟩ := X3.leave (v := (some (.ref u0))) (fun h => by rw [Bd.returns] at h; cases h)
    refine ⟨_, _, pre1 _ ?_, hrun, hended, _, _, rfl, ?_, ⟨_, rfl⟩, hW, hsame.mono (by decide) (by decide)⟩
    · show Steps p.tables e below (s₁.setTop (mkF m 1 #[.val (.int q1)] [(.int q1)])) _
      refine XS.ifNo X0.here hx rfl (hb hby d1_1) rfl ((if0 _ _).trans (teq hc2).2) ?_
      show Steps p.tables e below (s₁.setTop (mkF m 4 #[.val (.int q1)] [])) _
      refine st3 _ ?_
      show Steps p.tables e below (T3.setTop (mkF m 7 #[.val (.int q1)] [(.ref u0)])) _
      exact retOut X3 hx Bd.returns rfl (Or.inr (Or.inr (Or.inr (Or.inr ⟨rfl, rfl, rfl⟩)))) (hb hby d1_7) hr
    · show Q1 Z q1 u0 u1 u2 u3 u4 u5 h0 n0 _ T3.heap _
      rw [e3]
      exact ⟨N0, rfl, (Or.inl ⟨rfl, hc2⟩)⟩
  · skip
    have pre4 : ∀ t, Steps p.tables e below (s₁.setTop (mkF m 10 #[.val (.int q1)] [(.int (1 : Int32)), (.int q1)])) t → Steps p.tables e below (s₁.setTop (entryFrame m #[(.int q1)] 1)) t := fun t kt => pre1 t (by
      show Steps p.tables e below (s₁.setTop (mkF m 1 #[.val (.int q1)] [(.int q1)])) _
      refine XS.ifYes X0.here hx rfl (pc0 := 1) (pc' := 8) rfl (hb hby d1_1) rfl ((if0 _ _).trans (feq hc2).2) (by decide) (by decide) ?_
      show Steps p.tables e below (s₁.setTop (mkF m 8 #[.val (.int q1)] [])) _
      refine XS.iloadN X0.here hx rfl (hb hby d1_8) rfl ?_
      show Steps p.tables e below (s₁.setTop (mkF m 9 #[.val (.int q1)] [(.int q1)])) _
      refine XS.iconst X0.here hx rfl (hb hby d1_9) ?_
      exact kt)
    by_cases hc5 : q1 = (1 : Int32)
    · skip
      obtain ⟨T6, X6, e6, st6⟩ := getS2 X0 hx hZ hown (host := "") (Or.inl (own_k hw 20 rfl)) Via.refl e0 (hS1.ext hO.2) (g := (mkF m 13 #[.val (.int q1)] [])) rfl (hb hby d1_13)
      obtain ⟨fs, hr, hrun, hended, hW, hsame⟩ := X6.leave (v := (some (.ref u1))) (fun h => by rw [Bd.returns] at h; cases h)
      refine ⟨_, _, pre4 _ ?_, hrun, hended, _, _, rfl, ?_, ⟨_, rfl⟩, hW, hsame.mono (by decide) (by decide)⟩
      · show Steps p.tables e below (s₁.setTop (mkF m 10 #[.val (.int q1)] [(.int (1 : Int32)), (.int q1)])) _
        refine XS.icmpNo X0.here hx rfl (hb hby d1_10) rfl (teq hc5).2 ?_
        show Steps p.tables e below (s₁.setTop (mkF m 13 #[.val (.int q1)] [])) _
        refine st6 _ ?_
        show Steps p.tables e below (T6.setTop (mkF m 16 #[.val (.int q1)] [(.ref u1)])) _
        exact retOut X6 hx Bd.returns rfl (Or.inr (Or.inr (Or.inr (Or.inr ⟨rfl, rfl, rfl⟩)))) (hb hby d1_16) hr
      · show Q1 Z q1 u0 u1 u2 u3 u4 u5 h0 n0 _ T6.heap _
        rw [e6]
        exact ⟨N0, rfl, (Or.inr (Or.inl ⟨rfl, hc5⟩))⟩
    · skip
      have pre7 : ∀ t, Steps p.tables e below (s₁.setTop (mkF m 19 #[.val (.int q1)] [(.int (2 : Int32)), (.int q1)])) t → Steps p.tables e below (s₁.setTop (entryFrame m #[(.int q1)] 1)) t := fun t kt => pre4 t (by
        show Steps p.tables e below (s₁.setTop (mkF m 10 #[.val (.int q1)] [(.int (1 : Int32)), (.int q1)])) _
        refine XS.icmpYes X0.here hx rfl (pc0 := 10) (pc' := 17) rfl (hb hby d1_10) rfl (feq hc5).2 (by decide) (by decide) ?_
        show Steps p.tables e below (s₁.setTop (mkF m 17 #[.val (.int q1)] [])) _
        refine XS.iloadN X0.here hx rfl (hb hby d1_17) rfl ?_
        show Steps p.tables e below (s₁.setTop (mkF m 18 #[.val (.int q1)] [(.int q1)])) _
        refine XS.iconst X0.here hx rfl (hb hby d1_18) ?_
        exact kt)
      by_cases hc8 : q1 = (2 : Int32)
      · skip
        obtain ⟨T9, X9, e9, st9⟩ := getS2 X0 hx hZ hown (host := "") (Or.inl (own_k hw 16 rfl)) Via.refl e0 (hS2.ext hO.2) (g := (mkF m 22 #[.val (.int q1)] [])) rfl (hb hby d1_22)
        obtain ⟨fs, hr, hrun, hended, hW, hsame⟩ := X9.leave (v := (some (.ref u2))) (fun h => by rw [Bd.returns] at h; cases h)
        refine ⟨_, _, pre7 _ ?_, hrun, hended, _, _, rfl, ?_, ⟨_, rfl⟩, hW, hsame.mono (by decide) (by decide)⟩
        · show Steps p.tables e below (s₁.setTop (mkF m 19 #[.val (.int q1)] [(.int (2 : Int32)), (.int q1)])) _
          refine XS.icmpNo X0.here hx rfl (hb hby d1_19) rfl (teq hc8).2 ?_
          show Steps p.tables e below (s₁.setTop (mkF m 22 #[.val (.int q1)] [])) _
          refine st9 _ ?_
          show Steps p.tables e below (T9.setTop (mkF m 25 #[.val (.int q1)] [(.ref u2)])) _
          exact retOut X9 hx Bd.returns rfl (Or.inr (Or.inr (Or.inr (Or.inr ⟨rfl, rfl, rfl⟩)))) (hb hby d1_25) hr
        · show Q1 Z q1 u0 u1 u2 u3 u4 u5 h0 n0 _ T9.heap _
          rw [e9]
          exact ⟨N0, rfl, (Or.inr (Or.inr (Or.inl ⟨rfl, hc8⟩)))⟩
      · skip
        have pre10 : ∀ t, Steps p.tables e below (s₁.setTop (mkF m 28 #[.val (.int q1)] [(.int (3 : Int32)), (.int q1)])) t → Steps p.tables e below (s₁.setTop (entryFrame m #[(.int q1)] 1)) t := fun t kt => pre7 t (by
          show Steps p.tables e below (s₁.setTop (mkF m 19 #[.val (.int q1)] [(.int (2 : Int32)), (.int q1)])) _
          refine XS.icmpYes X0.here hx rfl (pc0 := 19) (pc' := 26) rfl (hb hby d1_19) rfl (feq hc8).2 (by decide) (by decide) ?_
          show Steps p.tables e below (s₁.setTop (mkF m 26 #[.val (.int q1)] [])) _
          refine XS.iloadN X0.here hx rfl (hb hby d1_26) rfl ?_
          show Steps p.tables e below (s₁.setTop (mkF m 27 #[.val (.int q1)] [(.int q1)])) _
          refine XS.iconst X0.here hx rfl (hb hby d1_27) ?_
          exact kt)
        by_cases hc11 : q1 = (3 : Int32)
        · skip
          obtain ⟨T12, X12, e12, st12⟩ := getS2 X0 hx hZ hown (host := "") (Or.inl (own_k hw 24 rfl)) Via.refl e0 (hS3.ext hO.2) (g := (mkF m 31 #[.val (.int q1)] [])) rfl (hb hby d1_31)
          obtain ⟨fs, hr, hrun, hended, hW, hsame⟩ := X12.leave (v := (some (.ref u3))) (fun h => by rw [Bd.returns] at h; cases h)
          refine ⟨_, _, pre10 _ ?_, hrun, hended, _, _, rfl, ?_, ⟨_, rfl⟩, hW, hsame.mono (by decide) (by decide)⟩
          · show Steps p.tables e below (s₁.setTop (mkF m 28 #[.val (.int q1)] [(.int (3 : Int32)), (.int q1)])) _
            refine XS.icmpNo X0.here hx rfl (hb hby d1_28) rfl (teq hc11).2 ?_
            show Steps p.tables e below (s₁.setTop (mkF m 31 #[.val (.int q1)] [])) _
            refine st12 _ ?_
            show Steps p.tables e below (T12.setTop (mkF m 34 #[.val (.int q1)] [(.ref u3)])) _
            exact retOut X12 hx Bd.returns rfl (Or.inr (Or.inr (Or.inr (Or.inr ⟨rfl, rfl, rfl⟩)))) (hb hby d1_34) hr
          · show Q1 Z q1 u0 u1 u2 u3 u4 u5 h0 n0 _ T12.heap _
            rw [e12]
            exact ⟨N0, rfl, (Or.inr (Or.inr (Or.inr (Or.inl ⟨rfl, hc11⟩))))⟩
        · skip
          have pre13 : ∀ t, Steps p.tables e below (s₁.setTop (mkF m 37 #[.val (.int q1)] [(.int (4 : Int32)), (.int q1)])) t → Steps p.tables e below (s₁.setTop (entryFrame m #[(.int q1)] 1)) t := fun t kt => pre10 t (by
            show Steps p.tables e below (s₁.setTop (mkF m 28 #[.val (.int q1)] [(.int (3 : Int32)), (.int q1)])) _
            refine XS.icmpYes X0.here hx rfl (pc0 := 28) (pc' := 35) rfl (hb hby d1_28) rfl (feq hc11).2 (by decide) (by decide) ?_
            show Steps p.tables e below (s₁.setTop (mkF m 35 #[.val (.int q1)] [])) _
            refine XS.iloadN X0.here hx rfl (hb hby d1_35) rfl ?_
            show Steps p.tables e below (s₁.setTop (mkF m 36 #[.val (.int q1)] [(.int q1)])) _
            refine XS.iconst X0.here hx rfl (hb hby d1_36) ?_
            exact kt)
          by_cases hc14 : q1 = (4 : Int32)
          · skip
            obtain ⟨T15, X15, e15, st15⟩ := getS2 X0 hx hZ hown (host := "") (Or.inl (own_k hw 18 rfl)) Via.refl e0 (hS4.ext hO.2) (g := (mkF m 40 #[.val (.int q1)] [])) rfl (hb hby d1_40)
            obtain ⟨fs, hr, hrun, hended, hW, hsame⟩ := X15.leave (v := (some (.ref u4))) (fun h => by rw [Bd.returns] at h; cases h)
            refine ⟨_, _, pre13 _ ?_, hrun, hended, _, _, rfl, ?_, ⟨_, rfl⟩, hW, hsame.mono (by decide) (by decide)⟩
            · show Steps p.tables e below (s₁.setTop (mkF m 37 #[.val (.int q1)] [(.int (4 : Int32)), (.int q1)])) _
              refine XS.icmpNo X0.here hx rfl (hb hby d1_37) rfl (teq hc14).2 ?_
              show Steps p.tables e below (s₁.setTop (mkF m 40 #[.val (.int q1)] [])) _
              refine st15 _ ?_
              show Steps p.tables e below (T15.setTop (mkF m 43 #[.val (.int q1)] [(.ref u4)])) _
              exact retOut X15 hx Bd.returns rfl (Or.inr (Or.inr (Or.inr (Or.inr ⟨rfl, rfl, rfl⟩)))) (hb hby d1_43) hr
            · show Q1 Z q1 u0 u1 u2 u3 u4 u5 h0 n0 _ T15.heap _
              rw [e15]
              exact ⟨N0, rfl, (Or.inr (Or.inr (Or.inr (Or.inr (Or.inl ⟨rfl, hc14⟩)))))⟩
          · skip
            obtain ⟨T16, X16, e16, st16⟩ := getS2 X0 hx hZ hown (host := "") (Or.inl (own_k hw 22 rfl)) Via.refl e0 (hS5.ext hO.2) (g := (mkF m 44 #[.val (.int q1)] [])) rfl (hb hby d1_44)
            obtain ⟨fs, hr, hrun, hended, hW, hsame⟩ := X16.leave (v := (some (.ref u5))) (fun h => by rw [Bd.returns] at h; cases h)
            refine ⟨_, _, pre13 _ ?_, hrun, hended, _, _, rfl, ?_, ⟨_, rfl⟩, hW, hsame.mono (by decide) (by decide)⟩
            · show Steps p.tables e below (s₁.setTop (mkF m 37 #[.val (.int q1)] [(.int (4 : Int32)), (.int q1)])) _
              refine XS.icmpYes X0.here hx rfl (pc0 := 37) (pc' := 44) rfl (hb hby d1_37) rfl (feq hc14).2 (by decide) (by decide) ?_
              show Steps p.tables e below (s₁.setTop (mkF m 44 #[.val (.int q1)] [])) _
              refine st16 _ ?_
              show Steps p.tables e below (T16.setTop (mkF m 47 #[.val (.int q1)] [(.ref u5)])) _
              exact retOut X16 hx Bd.returns rfl (Or.inr (Or.inr (Or.inr (Or.inr ⟨rfl, rfl, rfl⟩)))) (hb hby d1_47) hr
            · show Q1 Z q1 u0 u1 u2 u3 u4 u5 h0 n0 _ T16.heap _
              rw [e16]
              exact ⟨N0, rfl, (Or.inr (Or.inr (Or.inr (Or.inr (Or.inr ⟨rfl, hc2, hc5, hc8, hc11, hc14⟩)))))⟩
theorem own_pn_1 : plainName "com/example/multilingual_query_search/multilingualquerysearch/scoring/StructuredQueryMethod" = true := by first | (simp [plainName, overriddenIn]; done) | decide +kernel
theorem d2_0 : decode prog_27_method_7_code 0 = .ok (.aload_n 0, 1) := by decide +kernel
theorem d2_1 : decode prog_27_method_7_code 1 = .ok (.getfield 45, 3) := by decide +kernel
theorem d2_4 : decode prog_27_method_7_code 4 = .ok (.ifCond .eq 7, 3) := by decide +kernel
theorem d2_11 : decode prog_27_method_7_code 11 = .ok (.dconst 1, 1) := by decide +kernel
theorem d2_12 : decode prog_27_method_7_code 12 = .ok (.dreturn, 1) := by decide +kernel
theorem d2_7 : decode prog_27_method_7_code 7 = .ok (.dload_n 1, 1) := by decide +kernel
theorem d2_8 : decode prog_27_method_7_code 8 = .ok (.goto 4, 3) := by decide +kernel
theorem ef_2 (m : MethodId) (a1 : Addr) (d2 : UInt64) : entryFrame m #[(.ref a1), (.double d2)] 3 = mkF m 0 #[.val (.ref a1), .val (.double d2), .second] [] := by first | (simp [entryFrame, mkF, argsToLocals, Value.category]; done) | rfl
def Q2 (Z : State) (a1 : Addr) (d2 : UInt64) (p3 : Int32) (h0 : Heap) (n0 : Nat) (v : Option Value) (h : Heap) (L : List Loc) : Prop := Fr n0 L ∧ h = h0 ∧ ((v = some (.double d2) ∧ ¬ (p3 = (0 : Int32))) ∨ (v = some (.double (4607182418800017408 : UInt64)) ∧ p3 = (0 : Int32)))
set_option maxRecDepth 65536 in
set_option maxHeartbeats 40000000 in
theorem rm2 (l : Launch) (Z : State) (a0 : Array Value) (hw : ∀ d ∈ tables_1, d.before a0 Z = true) (ws : List Jvm.Cond) (a1 : Addr) (d2 : UInt64) (p3 : Int32) (h0 : Heap) (n0 : Nat) (Z0 : n0 ≤ h0.size) (hF1 : Fld Z h0 a1 "com/example/multilingual_query_search/multilingualquerysearch/scoring/StructuredQueryMethod" "weighsTermFrequency" "Z" (.int p3)) :
    MetFree l (⟨"com/example/multilingual_query_search/multilingualquerysearch/scoring/StructuredQueryMethod", "termFrequencyWeight", "(D)D"⟩ : MethodName) (head1 (Jvm.Cond.code (⟨"com/example/multilingual_query_search/multilingualquerysearch/scoring/StructuredQueryMethod", "termFrequencyWeight", "(D)D"⟩ : MethodName) prog_27_method_7_code 3 (some .double) :: ws) ({ frames := 0, cells := 0, slots := 0, locals := 0 } : Room)) (fun a U => a = #[(.ref a1), (.double d2)] ∧ Z.Warmed39 U.vm ∧ U.heap = h0) (fun _ _ _ _ _ => True) (fun _ U o U' => ∃ v L, o = .returned v ∧ Q2 Z a1 d2 p3 h0 n0 v U'.heap L ∧ FrameEnd U o U' L ({ frames := 0, cells := 0, slots := 0, locals := 0 } : Room).cells ({ frames := 0, cells := 0, slots := 0, locals := 0 } : Room).slots) := by
  refine MetFree.of_bodySF (plainFor_of_name own_pn_1) hisR ?_
  intro p e s m args below meth c s₁ Bd hml0 hP hK
  obtain ⟨rfl, hZ, hh⟩ := hP
  have hx := Bd.exec
  have hby := Bd.bytes
  have hml : c.maxLocals = 3 := hml0
  have hown : s.vm.findClass "com/example/multilingual_query_search/multilingualquerysearch/scoring/StructuredQueryMethod" = some m.cls := findClass_of_methodNamed Bd.named
  have hnm := (name_of_methodNamed Bd.named Bd.method).1
  have X0 : Stand p l e ({ frames := 0, cells := 0, slots := 0, locals := 0 } : Room) s m #[(.ref a1), (.double d2)] below meth c s₁ [] 0 0 := Stand.of_body Bd
  have e0 : s₁.heap = h0 := by rw [← hh, Bd.state]; rfl
  have N0 := Fr.nil n0
  have pre0 : ∀ t, Steps p.tables e below (s₁.setTop (mkF m 0 #[.val (.ref a1), .val (.double d2), .second] [])) t → Steps p.tables e below (s₁.setTop (entryFrame m #[(.ref a1), (.double d2)] 3)) t := fun t k => castTop (ef_2 m a1 d2) k
  obtain ⟨T1, X1, e1, st1⟩ := getF X0 hx hZ hown (host := "") (Or.inl (own_k hw 14 rfl)) Via.refl e0 hF1 (g := (mkF m 1 #[.val (.ref a1), .val (.double d2), .second] [(.ref a1)])) rfl rfl (hb hby d2_1)
  have pre2 : ∀ t, Steps p.tables e below (T1.setTop (mkF m 4 #[.val (.ref a1), .val (.double d2), .second] [(.int p3)])) t → Steps p.tables e below (s₁.setTop (entryFrame m #[(.ref a1), (.double d2)] 3)) t := fun t kt => pre0 t (by
    show Steps p.tables e below (s₁.setTop (mkF m 0 #[.val (.ref a1), .val (.double d2), .second] [])) _
    refine XS.aloadN X0.here hx rfl (hb hby d2_0) rfl rfl ?_
    show Steps p.tables e below (s₁.setTop (mkF m 1 #[.val (.ref a1), .val (.double d2), .second] [(.ref a1)])) _
    refine st1 _ ?_
    exact kt)
  by_cases hc3 : p3 = (0 : Int32)
  · skip
    obtain ⟨fs, hr, hrun, hended, hW, hsame⟩ := X1.leave (v := (some (.double (4607182418800017408 : UInt64)))) (fun h => by rw [Bd.returns] at h; cases h)
    refine ⟨_, _, pre2 _ ?_, hrun, hended, _, _, rfl, ?_, ⟨_, rfl⟩, hW, hsame.mono (by decide) (by decide)⟩
    · show Steps p.tables e below (T1.setTop (mkF m 4 #[.val (.ref a1), .val (.double d2), .second] [(.int p3)])) _
      refine XS.ifYes X1.here hx rfl (pc0 := 4) (pc' := 11) rfl (hb hby d2_4) rfl ((if0 _ _).trans (teq hc3).1) (by decide) (by decide) ?_
      show Steps p.tables e below (T1.setTop (mkF m 11 #[.val (.ref a1), .val (.double d2), .second] [])) _
      refine XS.dconst1 X1.here hx rfl (hb hby d2_11) (v := (4607182418800017408 : UInt64)) rfl ?_
      show Steps p.tables e below (T1.setTop (mkF m 12 #[.val (.ref a1), .val (.double d2), .second] [(.double (4607182418800017408 : UInt64))])) _
      exact retOut X1 hx Bd.returns rfl (Or.inr (Or.inr (Or.inl ⟨rfl, rfl, _, rfl⟩))) (hb hby d2_12) hr
    · show Q2 Z a1 d2 p3 h0 n0 _ T1.heap _
      rw [e1]
      exact ⟨N0, rfl, (Or.inr ⟨rfl, hc3⟩)⟩
  · skip
    obtain ⟨fs, hr, hrun, hended, hW, hsame⟩ := X1.leave (v := (some (.double d2))) (fun h => by rw [Bd.returns] at h; cases h)
    refine ⟨_, _, pre2 _ ?_, hrun, hended, _, _, rfl, ?_, ⟨_, rfl⟩, hW, hsame.mono (by decide) (by decide)⟩
    · show Steps p.tables e below (T1.setTop (mkF m 4 #[.val (.ref a1), .val (.double d2), .second] [(.int p3)])) _
      refine XS.ifNo X1.here hx rfl (hb hby d2_4) rfl ((if0 _ _).trans (feq hc3).1) ?_
      show Steps p.tables e below (T1.setTop (mkF m 7 #[.val (.ref a1), .val (.double d2), .second] [])) _
      refine XS.dloadN X1.here hx rfl (hb hby d2_7) rfl ?_
      show Steps p.tables e below (T1.setTop (mkF m 8 #[.val (.ref a1), .val (.double d2), .second] [(.double d2)])) _
      refine XS.goto X1.here hx rfl (pc0 := 8) (pc' := 12) rfl (hb hby d2_8) (by decide) (by decide) ?_
      show Steps p.tables e below (T1.setTop (mkF m 12 #[.val (.ref a1), .val (.double d2), .second] [(.double d2)])) _
      exact retOut X1 hx Bd.returns rfl (Or.inr (Or.inr (Or.inl ⟨rfl, rfl, _, rfl⟩))) (hb hby d2_12) hr
    · show Q2 Z a1 d2 p3 h0 n0 _ T1.heap _
      rw [e1]
      exact ⟨N0, rfl, (Or.inl ⟨rfl, hc3⟩)⟩
theorem own_pd_0 : parseMethodDescriptor "(I)Lcom/example/multilingual_query_search/multilingualquerysearch/scoring/StructuredQueryMethod;" = some ⟨[.int], some (.object "com/example/multilingual_query_search/multilingualquerysearch/scoring/StructuredQueryMethod")⟩ := by decide +kernel
theorem own_pd_1 : parseMethodDescriptor "(D)D" = some ⟨[.double], some .double⟩ := by decide +kernel
theorem ef_0 (m : MethodId) (p0 : Int32) (p1 : Int32) : entryFrame m #[(.int p0), (.int p1)] maxLocals = mkF m 0 #[.val (.int p0), .val (.int p1), .unset, .unset, .unset, .unset, .unset, .unset, .unset, .unset] [] := by first | (simp [entryFrame, mkF, argsToLocals, Value.category, maxLocals]; done) | rfl
def Q0 (Z : State) (p0 : Int32) (p1 : Int32) (u0 : Addr) (u1 : Addr) (u2 : Addr) (u3 : Addr) (u4 : Addr) (u5 : Addr) (h0 : Heap) (n0 : Nat) (v : Option Value) (h : Heap) (L : List Loc) : Prop := Fr n0 L ∧ v = some (.int (1 : Int32))
set_option maxRecDepth 65536 in
set_option maxHeartbeats 40000000 in
theorem rm0 (l : Launch) (Z : State) (a0 : Array Value) (hw : ∀ d ∈ tables_1, d.before a0 Z = true) (ws : List Jvm.Cond) (p0 : Int32) (p1 : Int32) (u0 : Addr) (u1 : Addr) (u2 : Addr) (u3 : Addr) (u4 : Addr) (u5 : Addr) (h0 : Heap) (n0 : Nat) (Z0 : n0 ≤ h0.size) (hS0 : Sta Z Z.heap "com/example/multilingual_query_search/multilingualquerysearch/scoring/StructuredQueryMethod" "PIRKOLA" "Lcom/example/multilingual_query_search/multilingualquerysearch/scoring/StructuredQueryMethod;" (.ref u0)) (hS1 : Sta Z Z.heap "com/example/multilingual_query_search/multilingualquerysearch/scoring/StructuredQueryMethod" "KWOK" "Lcom/example/multilingual_query_search/multilingualquerysearch/scoring/StructuredQueryMethod;" (.ref u1)) (hS2 : Sta Z Z.heap "com/example/multilingual_query_search/multilingualquerysearch/scoring/StructuredQueryMethod" "MDF" "Lcom/example/multilingual_query_search/multilingualquerysearch/scoring/StructuredQueryMethod;" (.ref u2)) (hS3 : Sta Z Z.heap "com/example/multilingual_query_search/multilingualquerysearch/scoring/StructuredQueryMethod" "WDF" "Lcom/example/multilingual_query_search/multilingualquerysearch/scoring/StructuredQueryMethod;" (.ref u3)) (hS4 : Sta Z Z.heap "com/example/multilingual_query_search/multilingualquerysearch/scoring/StructuredQueryMethod" "WTF" "Lcom/example/multilingual_query_search/multilingualquerysearch/scoring/StructuredQueryMethod;" (.ref u4)) (hS5 : Sta Z Z.heap "com/example/multilingual_query_search/multilingualquerysearch/scoring/StructuredQueryMethod" "WTF_DF" "Lcom/example/multilingual_query_search/multilingualquerysearch/scoring/StructuredQueryMethod;" (.ref u5)) (hE0 : Exa Z h0 u0 "com/example/multilingual_query_search/multilingualquerysearch/scoring/StructuredQueryMethod") (hE1 : Exa Z h0 u1 "com/example/multilingual_query_search/multilingualquerysearch/scoring/StructuredQueryMethod") (hE2 : Exa Z h0 u2 "com/example/multilingual_query_search/multilingualquerysearch/scoring/StructuredQueryMethod") (hE3 : Exa Z h0 u3 "com/example/multilingual_query_search/multilingualquerysearch/scoring/StructuredQueryMethod") (hE4 : Exa Z h0 u4 "com/example/multilingual_query_search/multilingualquerysearch/scoring/StructuredQueryMethod") (hE5 : Exa Z h0 u5 "com/example/multilingual_query_search/multilingualquerysearch/scoring/StructuredQueryMethod") (hF0 : Fld Z h0 u0 "com/example/multilingual_query_search/multilingualquerysearch/scoring/StructuredQueryMethod" "weighsTermFrequency" "Z" (.int (0 : Int32))) (hF1 : Fld Z h0 u1 "com/example/multilingual_query_search/multilingualquerysearch/scoring/StructuredQueryMethod" "weighsTermFrequency" "Z" (.int (0 : Int32))) (hF2 : Fld Z h0 u2 "com/example/multilingual_query_search/multilingualquerysearch/scoring/StructuredQueryMethod" "weighsTermFrequency" "Z" (.int (0 : Int32))) (hF3 : Fld Z h0 u3 "com/example/multilingual_query_search/multilingualquerysearch/scoring/StructuredQueryMethod" "weighsTermFrequency" "Z" (.int (0 : Int32))) (hF4 : Fld Z h0 u4 "com/example/multilingual_query_search/multilingualquerysearch/scoring/StructuredQueryMethod" "weighsTermFrequency" "Z" (.int (1 : Int32))) (hF5 : Fld Z h0 u5 "com/example/multilingual_query_search/multilingualquerysearch/scoring/StructuredQueryMethod" "weighsTermFrequency" "Z" (.int (1 : Int32))) (hO : Old Z n0 h0) :
    MetFree l x (head1 (Jvm.Cond.code x code maxLocals ret :: ws) room_1) (fun a U => a = #[(.int p0), (.int p1)] ∧ Z.Warmed39 U.vm ∧ U.heap = h0) (fun _ _ _ _ _ => True) (fun _ U o U' => ∃ v L, o = .returned v ∧ Q0 Z p0 p1 u0 u1 u2 u3 u4 u5 h0 n0 v U'.heap L ∧ FrameEnd U o U' L 0 0) := by
  refine MetFree.of_bodySF (plainFor_of_name own_pn_0) hisR ?_
  intro p e s m args below meth c s₁ Bd hml0 hP hK
  obtain ⟨rfl, hZ, hh⟩ := hP
  have hx := Bd.exec
  have hby := Bd.bytes
  have hml : c.maxLocals = 10 := hml0
  have hown : s.vm.findClass "com/example/multilingual_query_search/multilingualquerysearch/scoring/StructuredQueryMethodTermFrequencyWeightPinLaw" = some m.cls := findClass_of_methodNamed Bd.named
  have hnm := (name_of_methodNamed Bd.named Bd.method).1
  have X0 : Stand p l e room_1 s m #[(.int p0), (.int p1)] below meth c s₁ [] 0 0 := Stand.of_body Bd
  have e0 : s₁.heap = h0 := by rw [← hh, Bd.state]; rfl
  have N0 := Fr.nil n0
  have pre0 : ∀ t, Steps p.tables e below (s₁.setTop (mkF m 0 #[.val (.int p0), .val (.int p1), .unset, .unset, .unset, .unset, .unset, .unset, .unset, .unset] [])) t → Steps p.tables e below (s₁.setTop (entryFrame m #[(.int p0), (.int p1)] maxLocals)) t := fun t k => castTop (ef_0 m p0 p1) k
  obtain ⟨_, _, ⟨T1, L1, k1, n1⟩, -, X1, ⟨Lc1, hQ1, l1, y1, z1⟩, st1⟩ := Jvm.LawKit.callS X0 hx (y := (⟨"com/example/multilingual_query_search/multilingualquerysearch/scoring/StructuredQueryMethodTermFrequencyWeightPinLaw", "pick", "(I)Lcom/example/multilingual_query_search/multilingualquerysearch/scoring/StructuredQueryMethod;"⟩ : MethodName)) hown (mvT hZ (own_k hw 1 rfl)) (mvT hZ (own_k hw 2 rfl)) (mvT hZ (own_k hw 3 rfl)) (mvT hZ (own_k hw 4 rfl)) (by decide) (backOf (W := 0) (rm1 l Z a0 hw [] ((p0 &&& (2147483647 : Int32)) % (6 : Int32)) u0 u1 u2 u3 u4 u5 h0 n0 Z0 hS0 hS1 hS2 hS3 hS4 hS5 hO) hZ (own_k hw 4 rfl) (own_k hw 3 rfl) (by decide) (by decide)) (g := (mkF m 9 #[.val (.int p0), .val (.int p1), .val (.int ((p0 &&& (2147483647 : Int32)) % (6 : Int32))), .unset, .unset, .unset, .unset, .unset, .unset, .unset] [(.int ((p0 &&& (2147483647 : Int32)) % (6 : Int32)))])) rfl (by rw [hml]; rfl) (argsL := [(.int ((p0 &&& (2147483647 : Int32)) % (6 : Int32)))]) (rest := []) (lenOf own_pd_0 rfl) rfl (by show 2 * 0 + _ ≤ _; exact Nat.le_of_eq rfl) (hb hby at_9) (fun _ _ => ⟨rfl, e0, (by decide : 0 + 0 ≤ _), (by decide : 0 + 0 ≤ _)⟩)
  dsimp only [Pt.U, Pt.locs, Pt.cells, Pt.slots] at X1 l1 y1 z1 st1 hQ1
  subst l1 y1 z1
  obtain ⟨Nq1, eh1, hv1⟩ := hQ1
  have N1 := Fr.app N0 Nq1
  have pre2 : ∀ t, Steps p.tables e below (s₁.setTop (mkF m 9 #[.val (.int p0), .val (.int p1), .val (.int ((p0 &&& (2147483647 : Int32)) % (6 : Int32))), .unset, .unset, .unset, .unset, .unset, .unset, .unset] [(.int ((p0 &&& (2147483647 : Int32)) % (6 : Int32)))])) t → Steps p.tables e below (s₁.setTop (entryFrame m #[(.int p0), (.int p1)] maxLocals)) t := fun t kt => pre0 t (by
    show Steps p.tables e below (s₁.setTop (mkF m 0 #[.val (.int p0), .val (.int p1), .unset, .unset, .unset, .unset, .unset, .unset, .unset, .unset] [])) _
    refine XS.iloadN X0.here hx rfl (hb hby at_0) rfl ?_
    show Steps p.tables e below (s₁.setTop (mkF m 1 #[.val (.int p0), .val (.int p1), .unset, .unset, .unset, .unset, .unset, .unset, .unset, .unset] [(.int p0)])) _
    refine X0.ldcInt hx hown (mvT hZ (own_k hw 0 rfl)) (g := (mkF m 1 #[.val (.int p0), .val (.int p1), .unset, .unset, .unset, .unset, .unset, .unset, .unset, .unset] [(.int p0)])) rfl (hb hby at_1) _ ?_
    show Steps p.tables e below (s₁.setTop (mkF m 3 #[.val (.int p0), .val (.int p1), .unset, .unset, .unset, .unset, .unset, .unset, .unset, .unset] [(.int (2147483647 : Int32)), (.int p0)])) _
    refine XS.iand X0.here hx rfl (hb hby at_3) rfl ?_
    show Steps p.tables e below (s₁.setTop (mkF m 4 #[.val (.int p0), .val (.int p1), .unset, .unset, .unset, .unset, .unset, .unset, .unset, .unset] [(.int (p0 &&& (2147483647 : Int32)))])) _
    refine XS.bipush X0.here hx rfl (hb hby at_4) ?_
    show Steps p.tables e below (s₁.setTop (mkF m 6 #[.val (.int p0), .val (.int p1), .unset, .unset, .unset, .unset, .unset, .unset, .unset, .unset] [(.int (6 : Int32)), (.int (p0 &&& (2147483647 : Int32)))])) _
    refine iremM X0 hx rfl (hb hby at_6) rfl (by decide) ?_
    show Steps p.tables e below (s₁.setTop (mkF m 7 #[.val (.int p0), .val (.int p1), .unset, .unset, .unset, .unset, .unset, .unset, .unset, .unset] [(.int ((p0 &&& (2147483647 : Int32)) % (6 : Int32)))])) _
    refine XS.istoreN X0.here hx rfl (hb hby at_7) rfl (l' := #[.val (.int p0), .val (.int p1), .val (.int ((p0 &&& (2147483647 : Int32)) % (6 : Int32))), .unset, .unset, .unset, .unset, .unset, .unset, .unset]) rfl ?_
    show Steps p.tables e below (s₁.setTop (mkF m 8 #[.val (.int p0), .val (.int p1), .val (.int ((p0 &&& (2147483647 : Int32)) % (6 : Int32))), .unset, .unset, .unset, .unset, .unset, .unset, .unset] [])) _
    refine XS.iloadN X0.here hx rfl (hb hby at_8) rfl ?_
    exact kt)
  rcases hv1 with ⟨hv1, hd1_0⟩ | ⟨hv1, hd1_0⟩ | ⟨hv1, hd1_0⟩ | ⟨hv1, hd1_0⟩ | ⟨hv1, hd1_0⟩ | ⟨hv1, hd1_0, hd1_1, hd1_2, hd1_3, hd1_4⟩
  · subst hv1
    have hnn : Jvm.Free.Fl.NoNaN64 (FP.ddiv (FP.i2d p1) (4620693217682128896 : UInt64)) := Jvm.Free.Fl.ddiv_out (Jvm.Free.Fl.i2d_fin p1).noNaN own_q_fin own_q_nz
    obtain ⟨cq3, kq3, q3a, q3b, q3c⟩ := isOf hZ eh1 hE0
    obtain ⟨_, _, ⟨T3, L3, k3, n3⟩, -, X3, ⟨Lc3, hQ3, l3, y3, z3⟩, st3⟩ := X1.virtualBack hx (y := (⟨"com/example/multilingual_query_search/multilingualquerysearch/scoring/StructuredQueryMethod", "termFrequencyWeight", "(D)D"⟩ : MethodName)) (z := (⟨"com/example/multilingual_query_search/multilingualquerysearch/scoring/StructuredQueryMethod", "termFrequencyWeight", "(D)D"⟩ : MethodName)) hown (mvT hZ (own_k hw 9 rfl)) (mvT hZ (own_k hw 10 rfl)) (notFace_of_selects (args := #[]) (mvT hZ (own_k hw 12 rfl))) (mvT hZ (own_k hw 12 rfl)) (mvT hZ (own_k hw 11 rfl)) (by decide) (backOf (W := 0) (rm2 l Z a0 hw [] u0 (FP.ddiv (FP.i2d p1) (4620693217682128896 : UInt64)) (0 : Int32) h0 n0 Z0 hF0) hZ (own_k hw 13 rfl) (own_k hw 6 rfl) (by decide) (by decide)) q3a q3c (g := (mkF m 44 #[.val (.int p0), .val (.int p1), .val (.int ((p0 &&& (2147483647 : Int32)) % (6 : Int32))), .val (.ref u0), .val (.double (FP.ddiv (FP.i2d p1) (4620693217682128896 : UInt64))), .second, .val (.double (4607182418800017408 : UInt64)), .second, .unset, .unset] [(.double (FP.ddiv (FP.i2d p1) (4620693217682128896 : UInt64))), (.ref u0)])) rfl (by rw [hml]; rfl) (Steps.refl _) (argsL := [(.double (FP.ddiv (FP.i2d p1) (4620693217682128896 : UInt64)))]) (rest := []) (lenOf own_pd_1 rfl) rfl (by show 2 * 0 + _ ≤ _; exact Nat.le_of_eq rfl) (hb hby at_44) (fun _ _ => ⟨rfl, eh1, (by decide : 0 + 0 ≤ _), (by decide : 0 + 0 ≤ _)⟩)
    dsimp only [Pt.U, Pt.locs, Pt.cells, Pt.slots] at X3 l3 y3 z3 st3 hQ3
    subst l3 y3 z3
    obtain ⟨Nq3, eh3, hv3⟩ := hQ3
    have N3 := Fr.app N1 Nq3
    rcases hv3 with ⟨hv3, hd3_0⟩ | ⟨hv3, hd3_0⟩
    · subst hv3
      exact absurd hd3_0 (by decide)
    · subst hv3
      obtain ⟨fs, hr, hrun, hended, hW, hsame⟩ := X3.leave (v := (some (.int (1 : Int32)))) (fun h => by rw [Bd.returns] at h; cases h)
      refine ⟨_, _, pre2 _ ?_, hrun, hended, _, _, rfl, ?_, ⟨_, rfl⟩, hW, hsame.mono (by decide) (by decide)⟩
      · show Steps p.tables e below (s₁.setTop (mkF m 9 #[.val (.int p0), .val (.int p1), .val (.int ((p0 &&& (2147483647 : Int32)) % (6 : Int32))), .unset, .unset, .unset, .unset, .unset, .unset, .unset] [(.int ((p0 &&& (2147483647 : Int32)) % (6 : Int32)))])) _
        refine st1 _ ?_
        show Steps p.tables e below (T1.setTop (mkF m 12 #[.val (.int p0), .val (.int p1), .val (.int ((p0 &&& (2147483647 : Int32)) % (6 : Int32))), .unset, .unset, .unset, .unset, .unset, .unset, .unset] [(.ref u0)])) _
        refine XS.astoreN X1.here hx rfl (hb hby at_12) rfl rfl (l' := #[.val (.int p0), .val (.int p1), .val (.int ((p0 &&& (2147483647 : Int32)) % (6 : Int32))), .val (.ref u0), .unset, .unset, .unset, .unset, .unset, .unset]) rfl ?_
        show Steps p.tables e below (T1.setTop (mkF m 13 #[.val (.int p0), .val (.int p1), .val (.int ((p0 &&& (2147483647 : Int32)) % (6 : Int32))), .val (.ref u0), .unset, .unset, .unset, .unset, .unset, .unset] [])) _
        refine XS.iloadN X1.here hx rfl (hb hby at_13) rfl ?_
        show Steps p.tables e below (T1.setTop (mkF m 14 #[.val (.int p0), .val (.int p1), .val (.int ((p0 &&& (2147483647 : Int32)) % (6 : Int32))), .val (.ref u0), .unset, .unset, .unset, .unset, .unset, .unset] [(.int p1)])) _
        refine XS.i2dS X1.here hx rfl (hb hby at_14) rfl (v := FP.i2d p1) rfl ?_
        show Steps p.tables e below (T1.setTop (mkF m 15 #[.val (.int p0), .val (.int p1), .val (.int ((p0 &&& (2147483647 : Int32)) % (6 : Int32))), .val (.ref u0), .unset, .unset, .unset, .unset, .unset, .unset] [(.double (FP.i2d p1))])) _
        refine X1.ldc2DoubleC hx hown (mvT hZ (own_k hw 8 rfl)) (g := (mkF m 15 #[.val (.int p0), .val (.int p1), .val (.int ((p0 &&& (2147483647 : Int32)) % (6 : Int32))), .val (.ref u0), .unset, .unset, .unset, .unset, .unset, .unset] [(.double (FP.i2d p1))])) rfl (hb hby at_15) _ ?_
        show Steps p.tables e below (T1.setTop (mkF m 18 #[.val (.int p0), .val (.int p1), .val (.int ((p0 &&& (2147483647 : Int32)) % (6 : Int32))), .val (.ref u0), .unset, .unset, .unset, .unset, .unset, .unset] [(.double (4620693217682128896 : UInt64)), (.double (FP.i2d p1))])) _
        refine XS.ddivS X1.here hx rfl (hb hby at_18) rfl hnn (v := (FP.ddiv (FP.i2d p1) (4620693217682128896 : UInt64))) rfl ?_
        show Steps p.tables e below (T1.setTop (mkF m 19 #[.val (.int p0), .val (.int p1), .val (.int ((p0 &&& (2147483647 : Int32)) % (6 : Int32))), .val (.ref u0), .unset, .unset, .unset, .unset, .unset, .unset] [(.double (FP.ddiv (FP.i2d p1) (4620693217682128896 : UInt64)))])) _
        refine XS.dstore X1.here hx rfl (hb hby at_19) rfl (l' := #[.val (.int p0), .val (.int p1), .val (.int ((p0 &&& (2147483647 : Int32)) % (6 : Int32))), .val (.ref u0), .val (.double (FP.ddiv (FP.i2d p1) (4620693217682128896 : UInt64))), .second, .unset, .unset, .unset, .unset]) rfl ?_
        show Steps p.tables e below (T1.setTop (mkF m 21 #[.val (.int p0), .val (.int p1), .val (.int ((p0 &&& (2147483647 : Int32)) % (6 : Int32))), .val (.ref u0), .val (.double (FP.ddiv (FP.i2d p1) (4620693217682128896 : UInt64))), .second, .unset, .unset, .unset, .unset] [])) _
        refine XS.iloadN X1.here hx rfl (hb hby at_21) rfl ?_
        show Steps p.tables e below (T1.setTop (mkF m 22 #[.val (.int p0), .val (.int p1), .val (.int ((p0 &&& (2147483647 : Int32)) % (6 : Int32))), .val (.ref u0), .val (.double (FP.ddiv (FP.i2d p1) (4620693217682128896 : UInt64))), .second, .unset, .unset, .unset, .unset] [(.int ((p0 &&& (2147483647 : Int32)) % (6 : Int32)))])) _
        refine XS.iconst X1.here hx rfl (hb hby at_22) ?_
        show Steps p.tables e below (T1.setTop (mkF m 23 #[.val (.int p0), .val (.int p1), .val (.int ((p0 &&& (2147483647 : Int32)) % (6 : Int32))), .val (.ref u0), .val (.double (FP.ddiv (FP.i2d p1) (4620693217682128896 : UInt64))), .second, .unset, .unset, .unset, .unset] [(.int (4 : Int32)), (.int ((p0 &&& (2147483647 : Int32)) % (6 : Int32)))])) _
        refine XS.icmpNo X1.here hx rfl (hb hby at_23) rfl (feq (by rw [hd1_0]; decide)).1 ?_
        show Steps p.tables e below (T1.setTop (mkF m 26 #[.val (.int p0), .val (.int p1), .val (.int ((p0 &&& (2147483647 : Int32)) % (6 : Int32))), .val (.ref u0), .val (.double (FP.ddiv (FP.i2d p1) (4620693217682128896 : UInt64))), .second, .unset, .unset, .unset, .unset] [])) _
        refine XS.iloadN X1.here hx rfl (hb hby at_26) rfl ?_
        show Steps p.tables e below (T1.setTop (mkF m 27 #[.val (.int p0), .val (.int p1), .val (.int ((p0 &&& (2147483647 : Int32)) % (6 : Int32))), .val (.ref u0), .val (.double (FP.ddiv (FP.i2d p1) (4620693217682128896 : UInt64))), .second, .unset, .unset, .unset, .unset] [(.int ((p0 &&& (2147483647 : Int32)) % (6 : Int32)))])) _
        refine XS.iconst X1.here hx rfl (hb hby at_27) ?_
        show Steps p.tables e below (T1.setTop (mkF m 28 #[.val (.int p0), .val (.int p1), .val (.int ((p0 &&& (2147483647 : Int32)) % (6 : Int32))), .val (.ref u0), .val (.double (FP.ddiv (FP.i2d p1) (4620693217682128896 : UInt64))), .second, .unset, .unset, .unset, .unset] [(.int (5 : Int32)), (.int ((p0 &&& (2147483647 : Int32)) % (6 : Int32)))])) _
        refine XS.icmpYes X1.here hx rfl (pc0 := 28) (pc' := 38) rfl (hb hby at_28) rfl (feq (by rw [hd1_0]; decide)).2 (by decide) (by decide) ?_
        show Steps p.tables e below (T1.setTop (mkF m 38 #[.val (.int p0), .val (.int p1), .val (.int ((p0 &&& (2147483647 : Int32)) % (6 : Int32))), .val (.ref u0), .val (.double (FP.ddiv (FP.i2d p1) (4620693217682128896 : UInt64))), .second, .unset, .unset, .unset, .unset] [])) _
        refine XS.dconst1 X1.here hx rfl (hb hby at_38) (v := (4607182418800017408 : UInt64)) rfl ?_
        show Steps p.tables e below (T1.setTop (mkF m 39 #[.val (.int p0), .val (.int p1), .val (.int ((p0 &&& (2147483647 : Int32)) % (6 : Int32))), .val (.ref u0), .val (.double (FP.ddiv (FP.i2d p1) (4620693217682128896 : UInt64))), .second, .unset, .unset, .unset, .unset] [(.double (4607182418800017408 : UInt64))])) _
        refine XS.dstore X1.here hx rfl (hb hby at_39) rfl (l' := #[.val (.int p0), .val (.int p1), .val (.int ((p0 &&& (2147483647 : Int32)) % (6 : Int32))), .val (.ref u0), .val (.double (FP.ddiv (FP.i2d p1) (4620693217682128896 : UInt64))), .second, .val (.double (4607182418800017408 : UInt64)), .second, .unset, .unset]) rfl ?_
        show Steps p.tables e below (T1.setTop (mkF m 41 #[.val (.int p0), .val (.int p1), .val (.int ((p0 &&& (2147483647 : Int32)) % (6 : Int32))), .val (.ref u0), .val (.double (FP.ddiv (FP.i2d p1) (4620693217682128896 : UInt64))), .second, .val (.double (4607182418800017408 : UInt64)), .second, .unset, .unset] [])) _
        refine XS.aloadN X1.here hx rfl (hb hby at_41) rfl rfl ?_
        show Steps p.tables e below (T1.setTop (mkF m 42 #[.val (.int p0), .val (.int p1), .val (.int ((p0 &&& (2147483647 : Int32)) % (6 : Int32))), .val (.ref u0), .val (.double (FP.ddiv (FP.i2d p1) (4620693217682128896 : UInt64))), .second, .val (.double (4607182418800017408 : UInt64)), .second, .unset, .unset] [(.ref u0)])) _
        refine XS.dload X1.here hx rfl (hb hby at_42) rfl ?_
        show Steps p.tables e below (T1.setTop (mkF m 44 #[.val (.int p0), .val (.int p1), .val (.int ((p0 &&& (2147483647 : Int32)) % (6 : Int32))), .val (.ref u0), .val (.double (FP.ddiv (FP.i2d p1) (4620693217682128896 : UInt64))), .second, .val (.double (4607182418800017408 : UInt64)), .second, .unset, .unset] [(.double (FP.ddiv (FP.i2d p1) (4620693217682128896 : UInt64))), (.ref u0)])) _
        refine st3.trans ?_
        show Steps p.tables e below (T3.setTop (mkF m 47 #[.val (.int p0), .val (.int p1), .val (.int ((p0 &&& (2147483647 : Int32)) % (6 : Int32))), .val (.ref u0), .val (.double (FP.ddiv (FP.i2d p1) (4620693217682128896 : UInt64))), .second, .val (.double (4607182418800017408 : UInt64)), .second, .unset, .unset] [(.double (4607182418800017408 : UInt64))])) _
        refine XS.dstore X3.here hx rfl (hb hby at_47) rfl (l' := #[.val (.int p0), .val (.int p1), .val (.int ((p0 &&& (2147483647 : Int32)) % (6 : Int32))), .val (.ref u0), .val (.double (FP.ddiv (FP.i2d p1) (4620693217682128896 : UInt64))), .second, .val (.double (4607182418800017408 : UInt64)), .second, .val (.double (4607182418800017408 : UInt64)), .second]) rfl ?_
        show Steps p.tables e below (T3.setTop (mkF m 49 #[.val (.int p0), .val (.int p1), .val (.int ((p0 &&& (2147483647 : Int32)) % (6 : Int32))), .val (.ref u0), .val (.double (FP.ddiv (FP.i2d p1) (4620693217682128896 : UInt64))), .second, .val (.double (4607182418800017408 : UInt64)), .second, .val (.double (4607182418800017408 : UInt64)), .second] [])) _
        refine XS.dload X3.here hx rfl (hb hby at_49) rfl ?_
        show Steps p.tables e below (T3.setTop (mkF m 51 #[.val (.int p0), .val (.int p1), .val (.int ((p0 &&& (2147483647 : Int32)) % (6 : Int32))), .val (.ref u0), .val (.double (FP.ddiv (FP.i2d p1) (4620693217682128896 : UInt64))), .second, .val (.double (4607182418800017408 : UInt64)), .second, .val (.double (4607182418800017408 : UInt64)), .second] [(.double (4607182418800017408 : UInt64))])) _
        refine XS.dload X3.here hx rfl (hb hby at_51) rfl ?_
        show Steps p.tables e below (T3.setTop (mkF m 53 #[.val (.int p0), .val (.int p1), .val (.int ((p0 &&& (2147483647 : Int32)) % (6 : Int32))), .val (.ref u0), .val (.double (FP.ddiv (FP.i2d p1) (4620693217682128896 : UInt64))), .second, .val (.double (4607182418800017408 : UInt64)), .second, .val (.double (4607182418800017408 : UInt64)), .second] [(.double (4607182418800017408 : UInt64)), (.double (4607182418800017408 : UInt64))])) _
        refine XS.dcmpS X3.here hx rfl (hb hby at_53) rfl (v := (0 : Int32)) (dcmpV_self own_one .l) ?_
        show Steps p.tables e below (T3.setTop (mkF m 54 #[.val (.int p0), .val (.int p1), .val (.int ((p0 &&& (2147483647 : Int32)) % (6 : Int32))), .val (.ref u0), .val (.double (FP.ddiv (FP.i2d p1) (4620693217682128896 : UInt64))), .second, .val (.double (4607182418800017408 : UInt64)), .second, .val (.double (4607182418800017408 : UInt64)), .second] [(.int (0 : Int32))])) _
        refine XS.ifNo X3.here hx rfl (hb hby at_54) rfl (by decide) ?_
        show Steps p.tables e below (T3.setTop (mkF m 57 #[.val (.int p0), .val (.int p1), .val (.int ((p0 &&& (2147483647 : Int32)) % (6 : Int32))), .val (.ref u0), .val (.double (FP.ddiv (FP.i2d p1) (4620693217682128896 : UInt64))), .second, .val (.double (4607182418800017408 : UInt64)), .second, .val (.double (4607182418800017408 : UInt64)), .second] [])) _
        refine XS.iconst X3.here hx rfl (hb hby at_57) ?_
        show Steps p.tables e below (T3.setTop (mkF m 58 #[.val (.int p0), .val (.int p1), .val (.int ((p0 &&& (2147483647 : Int32)) % (6 : Int32))), .val (.ref u0), .val (.double (FP.ddiv (FP.i2d p1) (4620693217682128896 : UInt64))), .second, .val (.double (4607182418800017408 : UInt64)), .second, .val (.double (4607182418800017408 : UInt64)), .second] [(.int (1 : Int32))])) _
        refine XS.goto X3.here hx rfl (pc0 := 58) (pc' := 62) rfl (hb hby at_58) (by decide) (by decide) ?_
        show Steps p.tables e below (T3.setTop (mkF m 62 #[.val (.int p0), .val (.int p1), .val (.int ((p0 &&& (2147483647 : Int32)) % (6 : Int32))), .val (.ref u0), .val (.double (FP.ddiv (FP.i2d p1) (4620693217682128896 : UInt64))), .second, .val (.double (4607182418800017408 : UInt64)), .second, .val (.double (4607182418800017408 : UInt64)), .second] [(.int (1 : Int32))])) _
        exact retN X3 hx (t := .boolean) Bd.returns (by simp) (hb hby at_62) hr
      · show Q0 Z p0 p1 u0 u1 u2 u3 u4 u5 h0 n0 _ T3.heap _
        rw [eh3]
        exact ⟨N3, rfl⟩
  · subst hv1
    have hnn : Jvm.Free.Fl.NoNaN64 (FP.ddiv (FP.i2d p1) (4620693217682128896 : UInt64)) := Jvm.Free.Fl.ddiv_out (Jvm.Free.Fl.i2d_fin p1).noNaN own_q_fin own_q_nz
    obtain ⟨cq4, kq4, q4a, q4b, q4c⟩ := isOf hZ eh1 hE1
    obtain ⟨_, _, ⟨T4, L4, k4, n4⟩, -, X4, ⟨Lc4, hQ4, l4, y4, z4⟩, st4⟩ := X1.virtualBack hx (y := (⟨"com/example/multilingual_query_search/multilingualquerysearch/scoring/StructuredQueryMethod", "termFrequencyWeight", "(D)D"⟩ : MethodName)) (z := (⟨"com/example/multilingual_query_search/multilingualquerysearch/scoring/StructuredQueryMethod", "termFrequencyWeight", "(D)D"⟩ : MethodName)) hown (mvT hZ (own_k hw 9 rfl)) (mvT hZ (own_k hw 10 rfl)) (notFace_of_selects (args := #[]) (mvT hZ (own_k hw 12 rfl))) (mvT hZ (own_k hw 12 rfl)) (mvT hZ (own_k hw 11 rfl)) (by decide) (backOf (W := 0) (rm2 l Z a0 hw [] u1 (FP.ddiv (FP.i2d p1) (4620693217682128896 : UInt64)) (0 : Int32) h0 n0 Z0 hF1) hZ (own_k hw 13 rfl) (own_k hw 6 rfl) (by decide) (by decide)) q4a q4c (g := (mkF m 44 #[.val (.int p0), .val (.int p1), .val (.int ((p0 &&& (2147483647 : Int32)) % (6 : Int32))), .val (.ref u1), .val (.double (FP.ddiv (FP.i2d p1) (4620693217682128896 : UInt64))), .second, .val (.double (4607182418800017408 : UInt64)), .second, .unset, .unset] [(.double (FP.ddiv (FP.i2d p1) (4620693217682128896 : UInt64))), (.ref u1)])) rfl (by rw [hml]; rfl) (Steps.refl _) (argsL := [(.double (FP.ddiv (FP.i2d p1) (4620693217682128896 : UInt64)))]) (rest := []) (lenOf own_pd_1 rfl) rfl (by show 2 * 0 + _ ≤ _; exact Nat.le_of_eq rfl) (hb hby at_44) (fun _ _ => ⟨rfl, eh1, (by decide : 0 + 0 ≤ _), (by decide : 0 + 0 ≤ _)⟩)
    dsimp only [Pt.U, Pt.locs, Pt.cells, Pt.slots] at X4 l4 y4 z4 st4 hQ4
    subst l4 y4 z4
    obtain ⟨Nq4, eh4, hv4⟩ := hQ4
    have N4 := Fr.app N1 Nq4
    rcases hv4 with ⟨hv4, hd4_0⟩ | ⟨hv4, hd4_0⟩
    · subst hv4
      exact absurd hd4_0 (by decide)
    · subst hv4
      obtain ⟨fs, hr, hrun, hended, hW, hsame⟩ := X4.leave (v := (some (.int (1 : Int32)))) (fun h => by rw [Bd.returns] at h; cases h)
      refine ⟨_, _, pre2 _ ?_, hrun, hended, _, _, rfl, ?_, ⟨_, rfl⟩, hW, hsame.mono (by decide) (by decide)⟩
      · show Steps p.tables e below (s₁.setTop (mkF m 9 #[.val (.int p0), .val (.int p1), .val (.int ((p0 &&& (2147483647 : Int32)) % (6 : Int32))), .unset, .unset, .unset, .unset, .unset, .unset, .unset] [(.int ((p0 &&& (2147483647 : Int32)) % (6 : Int32)))])) _
        refine st1 _ ?_
        show Steps p.tables e below (T1.setTop (mkF m 12 #[.val (.int p0), .val (.int p1), .val (.int ((p0 &&& (2147483647 : Int32)) % (6 : Int32))), .unset, .unset, .unset, .unset, .unset, .unset, .unset] [(.ref u1)])) _
        refine XS.astoreN X1.here hx rfl (hb hby at_12) rfl rfl (l' := #[.val (.int p0), .val (.int p1), .val (.int ((p0 &&& (2147483647 : Int32)) % (6 : Int32))), .val (.ref u1), .unset, .unset, .unset, .unset, .unset, .unset]) rfl ?_
        show Steps p.tables e below (T1.setTop (mkF m 13 #[.val (.int p0), .val (.int p1), .val (.int ((p0 &&& (2147483647 : Int32)) % (6 : Int32))), .val (.ref u1), .unset, .unset, .unset, .unset, .unset, .unset] [])) _
        refine XS.iloadN X1.here hx rfl (hb hby at_13) rfl ?_
        show Steps p.tables e below (T1.setTop (mkF m 14 #[.val (.int p0), .val (.int p1), .val (.int ((p0 &&& (2147483647 : Int32)) % (6 : Int32))), .val (.ref u1), .unset, .unset, .unset, .unset, .unset, .unset] [(.int p1)])) _
        refine XS.i2dS X1.here hx rfl (hb hby at_14) rfl (v := FP.i2d p1) rfl ?_
        show Steps p.tables e below (T1.setTop (mkF m 15 #[.val (.int p0), .val (.int p1), .val (.int ((p0 &&& (2147483647 : Int32)) % (6 : Int32))), .val (.ref u1), .unset, .unset, .unset, .unset, .unset, .unset] [(.double (FP.i2d p1))])) _
        refine X1.ldc2DoubleC hx hown (mvT hZ (own_k hw 8 rfl)) (g := (mkF m 15 #[.val (.int p0), .val (.int p1), .val (.int ((p0 &&& (2147483647 : Int32)) % (6 : Int32))), .val (.ref u1), .unset, .unset, .unset, .unset, .unset, .unset] [(.double (FP.i2d p1))])) rfl (hb hby at_15) _ ?_
        show Steps p.tables e below (T1.setTop (mkF m 18 #[.val (.int p0), .val (.int p1), .val (.int ((p0 &&& (2147483647 : Int32)) % (6 : Int32))), .val (.ref u1), .unset, .unset, .unset, .unset, .unset, .unset] [(.double (4620693217682128896 : UInt64)), (.double (FP.i2d p1))])) _
        refine XS.ddivS X1.here hx rfl (hb hby at_18) rfl hnn (v := (FP.ddiv (FP.i2d p1) (4620693217682128896 : UInt64))) rfl ?_
        show Steps p.tables e below (T1.setTop (mkF m 19 #[.val (.int p0), .val (.int p1), .val (.int ((p0 &&& (2147483647 : Int32)) % (6 : Int32))), .val (.ref u1), .unset, .unset, .unset, .unset, .unset, .unset] [(.double (FP.ddiv (FP.i2d p1) (4620693217682128896 : UInt64)))])) _
        refine XS.dstore X1.here hx rfl (hb hby at_19) rfl (l' := #[.val (.int p0), .val (.int p1), .val (.int ((p0 &&& (2147483647 : Int32)) % (6 : Int32))), .val (.ref u1), .val (.double (FP.ddiv (FP.i2d p1) (4620693217682128896 : UInt64))), .second, .unset, .unset, .unset, .unset]) rfl ?_
        show Steps p.tables e below (T1.setTop (mkF m 21 #[.val (.int p0), .val (.int p1), .val (.int ((p0 &&& (2147483647 : Int32)) % (6 : Int32))), .val (.ref u1), .val (.double (FP.ddiv (FP.i2d p1) (4620693217682128896 : UInt64))), .second, .unset, .unset, .unset, .unset] [])) _
        refine XS.iloadN X1.here hx rfl (hb hby at_21) rfl ?_
        show Steps p.tables e below (T1.setTop (mkF m 22 #[.val (.int p0), .val (.int p1), .val (.int ((p0 &&& (2147483647 : Int32)) % (6 : Int32))), .val (.ref u1), .val (.double (FP.ddiv (FP.i2d p1) (4620693217682128896 : UInt64))), .second, .unset, .unset, .unset, .unset] [(.int ((p0 &&& (2147483647 : Int32)) % (6 : Int32)))])) _
        refine XS.iconst X1.here hx rfl (hb hby at_22) ?_
        show Steps p.tables e below (T1.setTop (mkF m 23 #[.val (.int p0), .val (.int p1), .val (.int ((p0 &&& (2147483647 : Int32)) % (6 : Int32))), .val (.ref u1), .val (.double (FP.ddiv (FP.i2d p1) (4620693217682128896 : UInt64))), .second, .unset, .unset, .unset, .unset] [(.int (4 : Int32)), (.int ((p0 &&& (2147483647 : Int32)) % (6 : Int32)))])) _
        refine XS.icmpNo X1.here hx rfl (hb hby at_23) rfl (feq (by rw [hd1_0]; decide)).1 ?_
        show Steps p.tables e below (T1.setTop (mkF m 26 #[.val (.int p0), .val (.int p1), .val (.int ((p0 &&& (2147483647 : Int32)) % (6 : Int32))), .val (.ref u1), .val (.double (FP.ddiv (FP.i2d p1) (4620693217682128896 : UInt64))), .second, .unset, .unset, .unset, .unset] [])) _
        refine XS.iloadN X1.here hx rfl (hb hby at_26) rfl ?_
        show Steps p.tables e below (T1.setTop (mkF m 27 #[.val (.int p0), .val (.int p1), .val (.int ((p0 &&& (2147483647 : Int32)) % (6 : Int32))), .val (.ref u1), .val (.double (FP.ddiv (FP.i2d p1) (4620693217682128896 : UInt64))), .second, .unset, .unset, .unset, .unset] [(.int ((p0 &&& (2147483647 : Int32)) % (6 : Int32)))])) _
        refine XS.iconst X1.here hx rfl (hb hby at_27) ?_
        show Steps p.tables e below (T1.setTop (mkF m 28 #[.val (.int p0), .val (.int p1), .val (.int ((p0 &&& (2147483647 : Int32)) % (6 : Int32))), .val (.ref u1), .val (.double (FP.ddiv (FP.i2d p1) (4620693217682128896 : UInt64))), .second, .unset, .unset, .unset, .unset] [(.int (5 : Int32)), (.int ((p0 &&& (2147483647 : Int32)) % (6 : Int32)))])) _
        refine XS.icmpYes X1.here hx rfl (pc0 := 28) (pc' := 38) rfl (hb hby at_28) rfl (feq (by rw [hd1_0]; decide)).2 (by decide) (by decide) ?_
        show Steps p.tables e below (T1.setTop (mkF m 38 #[.val (.int p0), .val (.int p1), .val (.int ((p0 &&& (2147483647 : Int32)) % (6 : Int32))), .val (.ref u1), .val (.double (FP.ddiv (FP.i2d p1) (4620693217682128896 : UInt64))), .second, .unset, .unset, .unset, .unset] [])) _
        refine XS.dconst1 X1.here hx rfl (hb hby at_38) (v := (4607182418800017408 : UInt64)) rfl ?_
        show Steps p.tables e below (T1.setTop (mkF m 39 #[.val (.int p0), .val (.int p1), .val (.int ((p0 &&& (2147483647 : Int32)) % (6 : Int32))), .val (.ref u1), .val (.double (FP.ddiv (FP.i2d p1) (4620693217682128896 : UInt64))), .second, .unset, .unset, .unset, .unset] [(.double (4607182418800017408 : UInt64))])) _
        refine XS.dstore X1.here hx rfl (hb hby at_39) rfl (l' := #[.val (.int p0), .val (.int p1), .val (.int ((p0 &&& (2147483647 : Int32)) % (6 : Int32))), .val (.ref u1), .val (.double (FP.ddiv (FP.i2d p1) (4620693217682128896 : UInt64))), .second, .val (.double (4607182418800017408 : UInt64)), .second, .unset, .unset]) rfl ?_
        show Steps p.tables e below (T1.setTop (mkF m 41 #[.val (.int p0), .val (.int p1), .val (.int ((p0 &&& (2147483647 : Int32)) % (6 : Int32))), .val (.ref u1), .val (.double (FP.ddiv (FP.i2d p1) (4620693217682128896 : UInt64))), .second, .val (.double (4607182418800017408 : UInt64)), .second, .unset, .unset] [])) _
        refine XS.aloadN X1.here hx rfl (hb hby at_41) rfl rfl ?_
        show Steps p.tables e below (T1.setTop (mkF m 42 #[.val (.int p0), .val (.int p1), .val (.int ((p0 &&& (2147483647 : Int32)) % (6 : Int32))), .val (.ref u1), .val (.double (FP.ddiv (FP.i2d p1) (4620693217682128896 : UInt64))), .second, .val (.double (4607182418800017408 : UInt64)), .second, .unset, .unset] [(.ref u1)])) _
        refine XS.dload X1.here hx rfl (hb hby at_42) rfl ?_
        show Steps p.tables e below (T1.setTop (mkF m 44 #[.val (.int p0), .val (.int p1), .val (.int ((p0 &&& (2147483647 : Int32)) % (6 : Int32))), .val (.ref u1), .val (.double (FP.ddiv (FP.i2d p1) (4620693217682128896 : UInt64))), .second, .val (.double (4607182418800017408 : UInt64)), .second, .unset, .unset] [(.double (FP.ddiv (FP.i2d p1) (4620693217682128896 : UInt64))), (.ref u1)])) _
        refine st4.trans ?_
        show Steps p.tables e below (T4.setTop (mkF m 47 #[.val (.int p0), .val (.int p1), .val (.int ((p0 &&& (2147483647 : Int32)) % (6 : Int32))), .val (.ref u1), .val (.double (FP.ddiv (FP.i2d p1) (4620693217682128896 : UInt64))), .second, .val (.double (4607182418800017408 : UInt64)), .second, .unset, .unset] [(.double (4607182418800017408 : UInt64))])) _
        refine XS.dstore X4.here hx rfl (hb hby at_47) rfl (l' := #[.val (.int p0), .val (.int p1), .val (.int ((p0 &&& (2147483647 : Int32)) % (6 : Int32))), .val (.ref u1), .val (.double (FP.ddiv (FP.i2d p1) (4620693217682128896 : UInt64))), .second, .val (.double (4607182418800017408 : UInt64)), .second, .val (.double (4607182418800017408 : UInt64)), .second]) rfl ?_
        show Steps p.tables e below (T4.setTop (mkF m 49 #[.val (.int p0), .val (.int p1), .val (.int ((p0 &&& (2147483647 : Int32)) % (6 : Int32))), .val (.ref u1), .val (.double (FP.ddiv (FP.i2d p1) (4620693217682128896 : UInt64))), .second, .val (.double (4607182418800017408 : UInt64)), .second, .val (.double (4607182418800017408 : UInt64)), .second] [])) _
        refine XS.dload X4.here hx rfl (hb hby at_49) rfl ?_
        show Steps p.tables e below (T4.setTop (mkF m 51 #[.val (.int p0), .val (.int p1), .val (.int ((p0 &&& (2147483647 : Int32)) % (6 : Int32))), .val (.ref u1), .val (.double (FP.ddiv (FP.i2d p1) (4620693217682128896 : UInt64))), .second, .val (.double (4607182418800017408 : UInt64)), .second, .val (.double (4607182418800017408 : UInt64)), .second] [(.double (4607182418800017408 : UInt64))])) _
        refine XS.dload X4.here hx rfl (hb hby at_51) rfl ?_
        show Steps p.tables e below (T4.setTop (mkF m 53 #[.val (.int p0), .val (.int p1), .val (.int ((p0 &&& (2147483647 : Int32)) % (6 : Int32))), .val (.ref u1), .val (.double (FP.ddiv (FP.i2d p1) (4620693217682128896 : UInt64))), .second, .val (.double (4607182418800017408 : UInt64)), .second, .val (.double (4607182418800017408 : UInt64)), .second] [(.double (4607182418800017408 : UInt64)), (.double (4607182418800017408 : UInt64))])) _
        refine XS.dcmpS X4.here hx rfl (hb hby at_53) rfl (v := (0 : Int32)) (dcmpV_self own_one .l) ?_
        show Steps p.tables e below (T4.setTop (mkF m 54 #[.val (.int p0), .val (.int p1), .val (.int ((p0 &&& (2147483647 : Int32)) % (6 : Int32))), .val (.ref u1), .val (.double (FP.ddiv (FP.i2d p1) (4620693217682128896 : UInt64))), .second, .val (.double (4607182418800017408 : UInt64)), .second, .val (.double (4607182418800017408 : UInt64)), .second] [(.int (0 : Int32))])) _
        refine XS.ifNo X4.here hx rfl (hb hby at_54) rfl (by decide) ?_
        show Steps p.tables e below (T4.setTop (mkF m 57 #[.val (.int p0), .val (.int p1), .val (.int ((p0 &&& (2147483647 : Int32)) % (6 : Int32))), .val (.ref u1), .val (.double (FP.ddiv (FP.i2d p1) (4620693217682128896 : UInt64))), .second, .val (.double (4607182418800017408 : UInt64)), .second, .val (.double (4607182418800017408 : UInt64)), .second] [])) _
        refine XS.iconst X4.here hx rfl (hb hby at_57) ?_
        show Steps p.tables e below (T4.setTop (mkF m 58 #[.val (.int p0), .val (.int p1), .val (.int ((p0 &&& (2147483647 : Int32)) % (6 : Int32))), .val (.ref u1), .val (.double (FP.ddiv (FP.i2d p1) (4620693217682128896 : UInt64))), .second, .val (.double (4607182418800017408 : UInt64)), .second, .val (.double (4607182418800017408 : UInt64)), .second] [(.int (1 : Int32))])) _
        refine XS.goto X4.here hx rfl (pc0 := 58) (pc' := 62) rfl (hb hby at_58) (by decide) (by decide) ?_
        show Steps p.tables e below (T4.setTop (mkF m 62 #[.val (.int p0), .val (.int p1), .val (.int ((p0 &&& (2147483647 : Int32)) % (6 : Int32))), .val (.ref u1), .val (.double (FP.ddiv (FP.i2d p1) (4620693217682128896 : UInt64))), .second, .val (.double (4607182418800017408 : UInt64)), .second, .val (.double (4607182418800017408 : UInt64)), .second] [(.int (1 : Int32))])) _
        exact retN X4 hx (t := .boolean) Bd.returns (by simp) (hb hby at_62) hr
      · show Q0 Z p0 p1 u0 u1 u2 u3 u4 u5 h0 n0 _ T4.heap _
        rw [eh4]
        exact ⟨N4, rfl⟩
  · subst hv1
    have hnn : Jvm.Free.Fl.NoNaN64 (FP.ddiv (FP.i2d p1) (4620693217682128896 : UInt64)) := Jvm.Free.Fl.ddiv_out (Jvm.Free.Fl.i2d_fin p1).noNaN own_q_fin own_q_nz
    obtain ⟨cq5, kq5, q5a, q5b, q5c⟩ := isOf hZ eh1 hE2
    obtain ⟨_, _, ⟨T5, L5, k5, n5⟩, -, X5, ⟨Lc5, hQ5, l5, y5, z5⟩, st5⟩ := X1.virtualBack hx (y := (⟨"com/example/multilingual_query_search/multilingualquerysearch/scoring/StructuredQueryMethod", "termFrequencyWeight", "(D)D"⟩ : MethodName)) (z := (⟨"com/example/multilingual_query_search/multilingualquerysearch/scoring/StructuredQueryMethod", "termFrequencyWeight", "(D)D"⟩ : MethodName)) hown (mvT hZ (own_k hw 9 rfl)) (mvT hZ (own_k hw 10 rfl)) (notFace_of_selects (args := #[]) (mvT hZ (own_k hw 12 rfl))) (mvT hZ (own_k hw 12 rfl)) (mvT hZ (own_k hw 11 rfl)) (by decide) (backOf (W := 0) (rm2 l Z a0 hw [] u2 (FP.ddiv (FP.i2d p1) (4620693217682128896 : UInt64)) (0 : Int32) h0 n0 Z0 hF2) hZ (own_k hw 13 rfl) (own_k hw 6 rfl) (by decide) (by decide)) q5a q5c (g := (mkF m 44 #[.val (.int p0), .val (.int p1), .val (.int ((p0 &&& (2147483647 : Int32)) % (6 : Int32))), .val (.ref u2), .val (.double (FP.ddiv (FP.i2d p1) (4620693217682128896 : UInt64))), .second, .val (.double (4607182418800017408 : UInt64)), .second, .unset, .unset] [(.double (FP.ddiv (FP.i2d p1) (4620693217682128896 : UInt64))), (.ref u2)])) rfl (by rw [hml]; rfl) (Steps.refl _) (argsL := [(.double (FP.ddiv (FP.i2d p1) (4620693217682128896 : UInt64)))]) (rest := []) (lenOf own_pd_1 rfl) rfl (by show 2 * 0 + _ ≤ _; exact Nat.le_of_eq rfl) (hb hby at_44) (fun _ _ => ⟨rfl, eh1, (by decide : 0 + 0 ≤ _), (by decide : 0 + 0 ≤ _)⟩)
    dsimp only [Pt.U, Pt.locs, Pt.cells, Pt.slots] at X5 l5 y5 z5 st5 hQ5
    subst l5 y5 z5
    obtain ⟨Nq5, eh5, hv5⟩ := hQ5
    have N5 := Fr.app N1 Nq5
    rcases hv5 with ⟨hv5, hd5_0⟩ | ⟨hv5, hd5_0⟩
    · subst hv5
      exact absurd hd5_0 (by decide)
    · subst hv5
      obtain ⟨fs, hr, hrun, hended, hW, hsame⟩ := X5.leave (v := (some (.int (1 : Int32)))) (fun h => by rw [Bd.returns] at h; cases h)
      refine ⟨_, _, pre2 _ ?_, hrun, hended, _, _, rfl, ?_, ⟨_, rfl⟩, hW, hsame.mono (by decide) (by decide)⟩
      · show Steps p.tables e below (s₁.setTop (mkF m 9 #[.val (.int p0), .val (.int p1), .val (.int ((p0 &&& (2147483647 : Int32)) % (6 : Int32))), .unset, .unset, .unset, .unset, .unset, .unset, .unset] [(.int ((p0 &&& (2147483647 : Int32)) % (6 : Int32)))])) _
        refine st1 _ ?_
        show Steps p.tables e below (T1.setTop (mkF m 12 #[.val (.int p0), .val (.int p1), .val (.int ((p0 &&& (2147483647 : Int32)) % (6 : Int32))), .unset, .unset, .unset, .unset, .unset, .unset, .unset] [(.ref u2)])) _
        refine XS.astoreN X1.here hx rfl (hb hby at_12) rfl rfl (l' := #[.val (.int p0), .val (.int p1), .val (.int ((p0 &&& (2147483647 : Int32)) % (6 : Int32))), .val (.ref u2), .unset, .unset, .unset, .unset, .unset, .unset]) rfl ?_
        show Steps p.tables e below (T1.setTop (mkF m 13 #[.val (.int p0), .val (.int p1), .val (.int ((p0 &&& (2147483647 : Int32)) % (6 : Int32))), .val (.ref u2), .unset, .unset, .unset, .unset, .unset, .unset] [])) _
        refine XS.iloadN X1.here hx rfl (hb hby at_13) rfl ?_
        show Steps p.tables e below (T1.setTop (mkF m 14 #[.val (.int p0), .val (.int p1), .val (.int ((p0 &&& (2147483647 : Int32)) % (6 : Int32))), .val (.ref u2), .unset, .unset, .unset, .unset, .unset, .unset] [(.int p1)])) _
        refine XS.i2dS X1.here hx rfl (hb hby at_14) rfl (v := FP.i2d p1) rfl ?_
        show Steps p.tables e below (T1.setTop (mkF m 15 #[.val (.int p0), .val (.int p1), .val (.int ((p0 &&& (2147483647 : Int32)) % (6 : Int32))), .val (.ref u2), .unset, .unset, .unset, .unset, .unset, .unset] [(.double (FP.i2d p1))])) _
        refine X1.ldc2DoubleC hx hown (mvT hZ (own_k hw 8 rfl)) (g := (mkF m 15 #[.val (.int p0), .val (.int p1), .val (.int ((p0 &&& (2147483647 : Int32)) % (6 : Int32))), .val (.ref u2), .unset, .unset, .unset, .unset, .unset, .unset] [(.double (FP.i2d p1))])) rfl (hb hby at_15) _ ?_
        show Steps p.tables e below (T1.setTop (mkF m 18 #[.val (.int p0), .val (.int p1), .val (.int ((p0 &&& (2147483647 : Int32)) % (6 : Int32))), .val (.ref u2), .unset, .unset, .unset, .unset, .unset, .unset] [(.double (4620693217682128896 : UInt64)), (.double (FP.i2d p1))])) _
        refine XS.ddivS X1.here hx rfl (hb hby at_18) rfl hnn (v := (FP.ddiv (FP.i2d p1) (4620693217682128896 : UInt64))) rfl ?_
        show Steps p.tables e below (T1.setTop (mkF m 19 #[.val (.int p0), .val (.int p1), .val (.int ((p0 &&& (2147483647 : Int32)) % (6 : Int32))), .val (.ref u2), .unset, .unset, .unset, .unset, .unset, .unset] [(.double (FP.ddiv (FP.i2d p1) (4620693217682128896 : UInt64)))])) _
        refine XS.dstore X1.here hx rfl (hb hby at_19) rfl (l' := #[.val (.int p0), .val (.int p1), .val (.int ((p0 &&& (2147483647 : Int32)) % (6 : Int32))), .val (.ref u2), .val (.double (FP.ddiv (FP.i2d p1) (4620693217682128896 : UInt64))), .second, .unset, .unset, .unset, .unset]) rfl ?_
        show Steps p.tables e below (T1.setTop (mkF m 21 #[.val (.int p0), .val (.int p1), .val (.int ((p0 &&& (2147483647 : Int32)) % (6 : Int32))), .val (.ref u2), .val (.double (FP.ddiv (FP.i2d p1) (4620693217682128896 : UInt64))), .second, .unset, .unset, .unset, .unset] [])) _
        refine XS.iloadN X1.here hx rfl (hb hby at_21) rfl ?_
        show Steps p.tables e below (T1.setTop (mkF m 22 #[.val (.int p0), .val (.int p1), .val (.int ((p0 &&& (2147483647 : Int32)) % (6 : Int32))), .val (.ref u2), .val (.double (FP.ddiv (FP.i2d p1) (4620693217682128896 : UInt64))), .second, .unset, .unset, .unset, .unset] [(.int ((p0 &&& (2147483647 : Int32)) % (6 : Int32)))])) _
        refine XS.iconst X1.here hx rfl (hb hby at_22) ?_
        show Steps p.tables e below (T1.setTop (mkF m 23 #[.val (.int p0), .val (.int p1), .val (.int ((p0 &&& (2147483647 : Int32)) % (6 : Int32))), .val (.ref u2), .val (.double (FP.ddiv (FP.i2d p1) (4620693217682128896 : UInt64))), .second, .unset, .unset, .unset, .unset] [(.int (4 : Int32)), (.int ((p0 &&& (2147483647 : Int32)) % (6 : Int32)))])) _
        refine XS.icmpNo X1.here hx rfl (hb hby at_23) rfl (feq (by rw [hd1_0]; decide)).1 ?_
        show Steps p.tables e below (T1.setTop (mkF m 26 #[.val (.int p0), .val (.int p1), .val (.int ((p0 &&& (2147483647 : Int32)) % (6 : Int32))), .val (.ref u2), .val (.double (FP.ddiv (FP.i2d p1) (4620693217682128896 : UInt64))), .second, .unset, .unset, .unset, .unset] [])) _
        refine XS.iloadN X1.here hx rfl (hb hby at_26) rfl ?_
        show Steps p.tables e below (T1.setTop (mkF m 27 #[.val (.int p0), .val (.int p1), .val (.int ((p0 &&& (2147483647 : Int32)) % (6 : Int32))), .val (.ref u2), .val (.double (FP.ddiv (FP.i2d p1) (4620693217682128896 : UInt64))), .second, .unset, .unset, .unset, .unset] [(.int ((p0 &&& (2147483647 : Int32)) % (6 : Int32)))])) _
        refine XS.iconst X1.here hx rfl (hb hby at_27) ?_
        show Steps p.tables e below (T1.setTop (mkF m 28 #[.val (.int p0), .val (.int p1), .val (.int ((p0 &&& (2147483647 : Int32)) % (6 : Int32))), .val (.ref u2), .val (.double (FP.ddiv (FP.i2d p1) (4620693217682128896 : UInt64))), .second, .unset, .unset, .unset, .unset] [(.int (5 : Int32)), (.int ((p0 &&& (2147483647 : Int32)) % (6 : Int32)))])) _
        refine XS.icmpYes X1.here hx rfl (pc0 := 28) (pc' := 38) rfl (hb hby at_28) rfl (feq (by rw [hd1_0]; decide)).2 (by decide) (by decide) ?_
        show Steps p.tables e below (T1.setTop (mkF m 38 #[.val (.int p0), .val (.int p1), .val (.int ((p0 &&& (2147483647 : Int32)) % (6 : Int32))), .val (.ref u2), .val (.double (FP.ddiv (FP.i2d p1) (4620693217682128896 : UInt64))), .second, .unset, .unset, .unset, .unset] [])) _
        refine XS.dconst1 X1.here hx rfl (hb hby at_38) (v := (4607182418800017408 : UInt64)) rfl ?_
        show Steps p.tables e below (T1.setTop (mkF m 39 #[.val (.int p0), .val (.int p1), .val (.int ((p0 &&& (2147483647 : Int32)) % (6 : Int32))), .val (.ref u2), .val (.double (FP.ddiv (FP.i2d p1) (4620693217682128896 : UInt64))), .second, .unset, .unset, .unset, .unset] [(.double (4607182418800017408 : UInt64))])) _
        refine XS.dstore X1.here hx rfl (hb hby at_39) rfl (l' := #[.val (.int p0), .val (.int p1), .val (.int ((p0 &&& (2147483647 : Int32)) % (6 : Int32))), .val (.ref u2), .val (.double (FP.ddiv (FP.i2d p1) (4620693217682128896 : UInt64))), .second, .val (.double (4607182418800017408 : UInt64)), .second, .unset, .unset]) rfl ?_
        show Steps p.tables e below (T1.setTop (mkF m 41 #[.val (.int p0), .val (.int p1), .val (.int ((p0 &&& (2147483647 : Int32)) % (6 : Int32))), .val (.ref u2), .val (.double (FP.ddiv (FP.i2d p1) (4620693217682128896 : UInt64))), .second, .val (.double (4607182418800017408 : UInt64)), .second, .unset, .unset] [])) _
        refine XS.aloadN X1.here hx rfl (hb hby at_41) rfl rfl ?_
        show Steps p.tables e below (T1.setTop (mkF m 42 #[.val (.int p0), .val (.int p1), .val (.int ((p0 &&& (2147483647 : Int32)) % (6 : Int32))), .val (.ref u2), .val (.double (FP.ddiv (FP.i2d p1) (4620693217682128896 : UInt64))), .second, .val (.double (4607182418800017408 : UInt64)), .second, .unset, .unset] [(.ref u2)])) _
        refine XS.dload X1.here hx rfl (hb hby at_42) rfl ?_
        show Steps p.tables e below (T1.setTop (mkF m 44 #[.val (.int p0), .val (.int p1), .val (.int ((p0 &&& (2147483647 : Int32)) % (6 : Int32))), .val (.ref u2), .val (.double (FP.ddiv (FP.i2d p1) (4620693217682128896 : UInt64))), .second, .val (.double (4607182418800017408 : UInt64)), .second, .unset, .unset] [(.double (FP.ddiv (FP.i2d p1) (4620693217682128896 : UInt64))), (.ref u2)])) _
        refine st5.trans ?_
        show Steps p.tables e below (T5.setTop (mkF m 47 #[.val (.int p0), .val (.int p1), .val (.int ((p0 &&& (2147483647 : Int32)) % (6 : Int32))), .val (.ref u2), .val (.double (FP.ddiv (FP.i2d p1) (4620693217682128896 : UInt64))), .second, .val (.double (4607182418800017408 : UInt64)), .second, .unset, .unset] [(.double (4607182418800017408 : UInt64))])) _
        refine XS.dstore X5.here hx rfl (hb hby at_47) rfl (l' := #[.val (.int p0), .val (.int p1), .val (.int ((p0 &&& (2147483647 : Int32)) % (6 : Int32))), .val (.ref u2), .val (.double (FP.ddiv (FP.i2d p1) (4620693217682128896 : UInt64))), .second, .val (.double (4607182418800017408 : UInt64)), .second, .val (.double (4607182418800017408 : UInt64)), .second]) rfl ?_
        show Steps p.tables e below (T5.setTop (mkF m 49 #[.val (.int p0), .val (.int p1), .val (.int ((p0 &&& (2147483647 : Int32)) % (6 : Int32))), .val (.ref u2), .val (.double (FP.ddiv (FP.i2d p1) (4620693217682128896 : UInt64))), .second, .val (.double (4607182418800017408 : UInt64)), .second, .val (.double (4607182418800017408 : UInt64)), .second] [])) _
        refine XS.dload X5.here hx rfl (hb hby at_49) rfl ?_
        show Steps p.tables e below (T5.setTop (mkF m 51 #[.val (.int p0), .val (.int p1), .val (.int ((p0 &&& (2147483647 : Int32)) % (6 : Int32))), .val (.ref u2), .val (.double (FP.ddiv (FP.i2d p1) (4620693217682128896 : UInt64))), .second, .val (.double (4607182418800017408 : UInt64)), .second, .val (.double (4607182418800017408 : UInt64)), .second] [(.double (4607182418800017408 : UInt64))])) _
        refine XS.dload X5.here hx rfl (hb hby at_51) rfl ?_
        show Steps p.tables e below (T5.setTop (mkF m 53 #[.val (.int p0), .val (.int p1), .val (.int ((p0 &&& (2147483647 : Int32)) % (6 : Int32))), .val (.ref u2), .val (.double (FP.ddiv (FP.i2d p1) (4620693217682128896 : UInt64))), .second, .val (.double (4607182418800017408 : UInt64)), .second, .val (.double (4607182418800017408 : UInt64)), .second] [(.double (4607182418800017408 : UInt64)), (.double (4607182418800017408 : UInt64))])) _
        refine XS.dcmpS X5.here hx rfl (hb hby at_53) rfl (v := (0 : Int32)) (dcmpV_self own_one .l) ?_
        show Steps p.tables e below (T5.setTop (mkF m 54 #[.val (.int p0), .val (.int p1), .val (.int ((p0 &&& (2147483647 : Int32)) % (6 : Int32))), .val (.ref u2), .val (.double (FP.ddiv (FP.i2d p1) (4620693217682128896 : UInt64))), .second, .val (.double (4607182418800017408 : UInt64)), .second, .val (.double (4607182418800017408 : UInt64)), .second] [(.int (0 : Int32))])) _
        refine XS.ifNo X5.here hx rfl (hb hby at_54) rfl (by decide) ?_
        show Steps p.tables e below (T5.setTop (mkF m 57 #[.val (.int p0), .val (.int p1), .val (.int ((p0 &&& (2147483647 : Int32)) % (6 : Int32))), .val (.ref u2), .val (.double (FP.ddiv (FP.i2d p1) (4620693217682128896 : UInt64))), .second, .val (.double (4607182418800017408 : UInt64)), .second, .val (.double (4607182418800017408 : UInt64)), .second] [])) _
        refine XS.iconst X5.here hx rfl (hb hby at_57) ?_
        show Steps p.tables e below (T5.setTop (mkF m 58 #[.val (.int p0), .val (.int p1), .val (.int ((p0 &&& (2147483647 : Int32)) % (6 : Int32))), .val (.ref u2), .val (.double (FP.ddiv (FP.i2d p1) (4620693217682128896 : UInt64))), .second, .val (.double (4607182418800017408 : UInt64)), .second, .val (.double (4607182418800017408 : UInt64)), .second] [(.int (1 : Int32))])) _
        refine XS.goto X5.here hx rfl (pc0 := 58) (pc' := 62) rfl (hb hby at_58) (by decide) (by decide) ?_
        show Steps p.tables e below (T5.setTop (mkF m 62 #[.val (.int p0), .val (.int p1), .val (.int ((p0 &&& (2147483647 : Int32)) % (6 : Int32))), .val (.ref u2), .val (.double (FP.ddiv (FP.i2d p1) (4620693217682128896 : UInt64))), .second, .val (.double (4607182418800017408 : UInt64)), .second, .val (.double (4607182418800017408 : UInt64)), .second] [(.int (1 : Int32))])) _
        exact retN X5 hx (t := .boolean) Bd.returns (by simp) (hb hby at_62) hr
      · show Q0 Z p0 p1 u0 u1 u2 u3 u4 u5 h0 n0 _ T5.heap _
        rw [eh5]
        exact ⟨N5, rfl⟩
  · subst hv1
    have hnn : Jvm.Free.Fl.NoNaN64 (FP.ddiv (FP.i2d p1) (4620693217682128896 : UInt64)) := Jvm.Free.Fl.ddiv_out (Jvm.Free.Fl.i2d_fin p1).noNaN own_q_fin own_q_nz
    obtain ⟨cq6, kq6, q6a, q6b, q6c⟩ := isOf hZ eh1 hE3
    obtain ⟨_, _, ⟨T6, L6, k6, n6⟩, -, X6, ⟨Lc6, hQ6, l6, y6, z6⟩, st6⟩ := X1.virtualBack hx (y := (⟨"com/example/multilingual_query_search/multilingualquerysearch/scoring/StructuredQueryMethod", "termFrequencyWeight", "(D)D"⟩ : MethodName)) (z := (⟨"com/example/multilingual_query_search/multilingualquerysearch/scoring/StructuredQueryMethod", "termFrequencyWeight", "(D)D"⟩ : MethodName)) hown (mvT hZ (own_k hw 9 rfl)) (mvT hZ (own_k hw 10 rfl)) (notFace_of_selects (args := #[]) (mvT hZ (own_k hw 12 rfl))) (mvT hZ (own_k hw 12 rfl)) (mvT hZ (own_k hw 11 rfl)) (by decide) (backOf (W := 0) (rm2 l Z a0 hw [] u3 (FP.ddiv (FP.i2d p1) (4620693217682128896 : UInt64)) (0 : Int32) h0 n0 Z0 hF3) hZ (own_k hw 13 rfl) (own_k hw 6 rfl) (by decide) (by decide)) q6a q6c (g := (mkF m 44 #[.val (.int p0), .val (.int p1), .val (.int ((p0 &&& (2147483647 : Int32)) % (6 : Int32))), .val (.ref u3), .val (.double (FP.ddiv (FP.i2d p1) (4620693217682128896 : UInt64))), .second, .val (.double (4607182418800017408 : UInt64)), .second, .unset, .unset] [(.double (FP.ddiv (FP.i2d p1) (4620693217682128896 : UInt64))), (.ref u3)])) rfl (by rw [hml]; rfl) (Steps.refl _) (argsL := [(.double (FP.ddiv (FP.i2d p1) (4620693217682128896 : UInt64)))]) (rest := []) (lenOf own_pd_1 rfl) rfl (by show 2 * 0 + _ ≤ _; exact Nat.le_of_eq rfl) (hb hby at_44) (fun _ _ => ⟨rfl, eh1, (by decide : 0 + 0 ≤ _), (by decide : 0 + 0 ≤ _)⟩)
    dsimp only [Pt.U, Pt.locs, Pt.cells, Pt.slots] at X6 l6 y6 z6 st6 hQ6
    subst l6 y6 z6
    obtain ⟨Nq6, eh6, hv6⟩ := hQ6
    have N6 := Fr.app N1 Nq6
    rcases hv6 with ⟨hv6, hd6_0⟩ | ⟨hv6, hd6_0⟩
    · subst hv6
      exact absurd hd6_0 (by decide)
    · subst hv6
      obtain ⟨fs, hr, hrun, hended, hW, hsame⟩ := X6.leave (v := (some (.int (1 : Int32)))) (fun h => by rw [Bd.returns] at h; cases h)
      refine ⟨_, _, pre2 _ ?_, hrun, hended, _, _, rfl, ?_, ⟨_, rfl⟩, hW, hsame.mono (by decide) (by decide)⟩
      · show Steps p.tables e below (s₁.setTop (mkF m 9 #[.val (.int p0), .val (.int p1), .val (.int ((p0 &&& (2147483647 : Int32)) % (6 : Int32))), .unset, .unset, .unset, .unset, .unset, .unset, .unset] [(.int ((p0 &&& (2147483647 : Int32)) % (6 : Int32)))])) _
        refine st1 _ ?_
        show Steps p.tables e below (T1.setTop (mkF m 12 #[.val (.int p0), .val (.int p1), .val (.int ((p0 &&& (2147483647 : Int32)) % (6 : Int32))), .unset, .unset, .unset, .unset, .unset, .unset, .unset] [(.ref u3)])) _
        refine XS.astoreN X1.here hx rfl (hb hby at_12) rfl rfl (l' := #[.val (.int p0), .val (.int p1), .val (.int ((p0 &&& (2147483647 : Int32)) % (6 : Int32))), .val (.ref u3), .unset, .unset, .unset, .unset, .unset, .unset]) rfl ?_
        show Steps p.tables e below (T1.setTop (mkF m 13 #[.val (.int p0), .val (.int p1), .val (.int ((p0 &&& (2147483647 : Int32)) % (6 : Int32))), .val (.ref u3), .unset, .unset, .unset, .unset, .unset, .unset] [])) _
        refine XS.iloadN X1.here hx rfl (hb hby at_13) rfl ?_
        show Steps p.tables e below (T1.setTop (mkF m 14 #[.val (.int p0), .val (.int p1), .val (.int ((p0 &&& (2147483647 : Int32)) % (6 : Int32))), .val (.ref u3), .unset, .unset, .unset, .unset, .unset, .unset] [(.int p1)])) _
        refine XS.i2dS X1.here hx rfl (hb hby at_14) rfl (v := FP.i2d p1) rfl ?_
        show Steps p.tables e below (T1.setTop (mkF m 15 #[.val (.int p0), .val (.int p1), .val (.int ((p0 &&& (2147483647 : Int32)) % (6 : Int32))), .val (.ref u3), .unset, .unset, .unset, .unset, .unset, .unset] [(.double (FP.i2d p1))])) _
        refine X1.ldc2DoubleC hx hown (mvT hZ (own_k hw 8 rfl)) (g := (mkF m 15 #[.val (.int p0), .val (.int p1), .val (.int ((p0 &&& (2147483647 : Int32)) % (6 : Int32))), .val (.ref u3), .unset, .unset, .unset, .unset, .unset, .unset] [(.double (FP.i2d p1))])) rfl (hb hby at_15) _ ?_
        show Steps p.tables e below (T1.setTop (mkF m 18 #[.val (.int p0), .val (.int p1), .val (.int ((p0 &&& (2147483647 : Int32)) % (6 : Int32))), .val (.ref u3), .unset, .unset, .unset, .unset, .unset, .unset] [(.double (4620693217682128896 : UInt64)), (.double (FP.i2d p1))])) _
        refine XS.ddivS X1.here hx rfl (hb hby at_18) rfl hnn (v := (FP.ddiv (FP.i2d p1) (4620693217682128896 : UInt64))) rfl ?_
        show Steps p.tables e below (T1.setTop (mkF m 19 #[.val (.int p0), .val (.int p1), .val (.int ((p0 &&& (2147483647 : Int32)) % (6 : Int32))), .val (.ref u3), .unset, .unset, .unset, .unset, .unset, .unset] [(.double (FP.ddiv (FP.i2d p1) (4620693217682128896 : UInt64)))])) _
        refine XS.dstore X1.here hx rfl (hb hby at_19) rfl (l' := #[.val (.int p0), .val (.int p1), .val (.int ((p0 &&& (2147483647 : Int32)) % (6 : Int32))), .val (.ref u3), .val (.double (FP.ddiv (FP.i2d p1) (4620693217682128896 : UInt64))), .second, .unset, .unset, .unset, .unset]) rfl ?_
        show Steps p.tables e below (T1.setTop (mkF m 21 #[.val (.int p0), .val (.int p1), .val (.int ((p0 &&& (2147483647 : Int32)) % (6 : Int32))), .val (.ref u3), .val (.double (FP.ddiv (FP.i2d p1) (4620693217682128896 : UInt64))), .second, .unset, .unset, .unset, .unset] [])) _
        refine XS.iloadN X1.here hx rfl (hb hby at_21) rfl ?_
        show Steps p.tables e below (T1.setTop (mkF m 22 #[.val (.int p0), .val (.int p1), .val (.int ((p0 &&& (2147483647 : Int32)) % (6 : Int32))), .val (.ref u3), .val (.double (FP.ddiv (FP.i2d p1) (4620693217682128896 : UInt64))), .second, .unset, .unset, .unset, .unset] [(.int ((p0 &&& (2147483647 : Int32)) % (6 : Int32)))])) _
        refine XS.iconst X1.here hx rfl (hb hby at_22) ?_
        show Steps p.tables e below (T1.setTop (mkF m 23 #[.val (.int p0), .val (.int p1), .val (.int ((p0 &&& (2147483647 : Int32)) % (6 : Int32))), .val (.ref u3), .val (.double (FP.ddiv (FP.i2d p1) (4620693217682128896 : UInt64))), .second, .unset, .unset, .unset, .unset] [(.int (4 : Int32)), (.int ((p0 &&& (2147483647 : Int32)) % (6 : Int32)))])) _
        refine XS.icmpNo X1.here hx rfl (hb hby at_23) rfl (feq (by rw [hd1_0]; decide)).1 ?_
        show Steps p.tables e below (T1.setTop (mkF m 26 #[.val (.int p0), .val (.int p1), .val (.int ((p0 &&& (2147483647 : Int32)) % (6 : Int32))), .val (.ref u3), .val (.double (FP.ddiv (FP.i2d p1) (4620693217682128896 : UInt64))), .second, .unset, .unset, .unset, .unset] [])) _
        refine XS.iloadN X1.here hx rfl (hb hby at_26) rfl ?_
        show Steps p.tables e below (T1.setTop (mkF m 27 #[.val (.int p0), .val (.int p1), .val (.int ((p0 &&& (2147483647 : Int32)) % (6 : Int32))), .val (.ref u3), .val (.double (FP.ddiv (FP.i2d p1) (4620693217682128896 : UInt64))), .second, .unset, .unset, .unset, .unset] [(.int ((p0 &&& (2147483647 : Int32)) % (6 : Int32)))])) _
        refine XS.iconst X1.here hx rfl (hb hby at_27) ?_
        show Steps p.tables e below (T1.setTop (mkF m 28 #[.val (.int p0), .val (.int p1), .val (.int ((p0 &&& (2147483647 : Int32)) % (6 : Int32))), .val (.ref u3), .val (.double (FP.ddiv (FP.i2d p1) (4620693217682128896 : UInt64))), .second, .unset, .unset, .unset, .unset] [(.int (5 : Int32)), (.int ((p0 &&& (2147483647 : Int32)) % (6 : Int32)))])) _
        refine XS.icmpYes X1.here hx rfl (pc0 := 28) (pc' := 38) rfl (hb hby at_28) rfl (feq (by rw [hd1_0]; decide)).2 (by decide) (by decide) ?_
        show Steps p.tables e below (T1.setTop (mkF m 38 #[.val (.int p0), .val (.int p1), .val (.int ((p0 &&& (2147483647 : Int32)) % (6 : Int32))), .val (.ref u3), .val (.double (FP.ddiv (FP.i2d p1) (4620693217682128896 : UInt64))), .second, .unset, .unset, .unset, .unset] [])) _
        refine XS.dconst1 X1.here hx rfl (hb hby at_38) (v := (4607182418800017408 : UInt64)) rfl ?_
        show Steps p.tables e below (T1.setTop (mkF m 39 #[.val (.int p0), .val (.int p1), .val (.int ((p0 &&& (2147483647 : Int32)) % (6 : Int32))), .val (.ref u3), .val (.double (FP.ddiv (FP.i2d p1) (4620693217682128896 : UInt64))), .second, .unset, .unset, .unset, .unset] [(.double (4607182418800017408 : UInt64))])) _
        refine XS.dstore X1.here hx rfl (hb hby at_39) rfl (l' := #[.val (.int p0), .val (.int p1), .val (.int ((p0 &&& (2147483647 : Int32)) % (6 : Int32))), .val (.ref u3), .val (.double (FP.ddiv (FP.i2d p1) (4620693217682128896 : UInt64))), .second, .val (.double (4607182418800017408 : UInt64)), .second, .unset, .unset]) rfl ?_
        show Steps p.tables e below (T1.setTop (mkF m 41 #[.val (.int p0), .val (.int p1), .val (.int ((p0 &&& (2147483647 : Int32)) % (6 : Int32))), .val (.ref u3), .val (.double (FP.ddiv (FP.i2d p1) (4620693217682128896 : UInt64))), .second, .val (.double (4607182418800017408 : UInt64)), .second, .unset, .unset] [])) _
        refine XS.aloadN X1.here hx rfl (hb hby at_41) rfl rfl ?_
        show Steps p.tables e below (T1.setTop (mkF m 42 #[.val (.int p0), .val (.int p1), .val (.int ((p0 &&& (2147483647 : Int32)) % (6 : Int32))), .val (.ref u3), .val (.double (FP.ddiv (FP.i2d p1) (4620693217682128896 : UInt64))), .second, .val (.double (4607182418800017408 : UInt64)), .second, .unset, .unset] [(.ref u3)])) _
        refine XS.dload X1.here hx rfl (hb hby at_42) rfl ?_
        show Steps p.tables e below (T1.setTop (mkF m 44 #[.val (.int p0), .val (.int p1), .val (.int ((p0 &&& (2147483647 : Int32)) % (6 : Int32))), .val (.ref u3), .val (.double (FP.ddiv (FP.i2d p1) (4620693217682128896 : UInt64))), .second, .val (.double (4607182418800017408 : UInt64)), .second, .unset, .unset] [(.double (FP.ddiv (FP.i2d p1) (4620693217682128896 : UInt64))), (.ref u3)])) _
        refine st6.trans ?_
        show Steps p.tables e below (T6.setTop (mkF m 47 #[.val (.int p0), .val (.int p1), .val (.int ((p0 &&& (2147483647 : Int32)) % (6 : Int32))), .val (.ref u3), .val (.double (FP.ddiv (FP.i2d p1) (4620693217682128896 : UInt64))), .second, .val (.double (4607182418800017408 : UInt64)), .second, .unset, .unset] [(.double (4607182418800017408 : UInt64))])) _
        refine XS.dstore X6.here hx rfl (hb hby at_47) rfl (l' := #[.val (.int p0), .val (.int p1), .val (.int ((p0 &&& (2147483647 : Int32)) % (6 : Int32))), .val (.ref u3), .val (.double (FP.ddiv (FP.i2d p1) (4620693217682128896 : UInt64))), .second, .val (.double (4607182418800017408 : UInt64)), .second, .val (.double (4607182418800017408 : UInt64)), .second]) rfl ?_
        show Steps p.tables e below (T6.setTop (mkF m 49 #[.val (.int p0), .val (.int p1), .val (.int ((p0 &&& (2147483647 : Int32)) % (6 : Int32))), .val (.ref u3), .val (.double (FP.ddiv (FP.i2d p1) (4620693217682128896 : UInt64))), .second, .val (.double (4607182418800017408 : UInt64)), .second, .val (.double (4607182418800017408 : UInt64)), .second] [])) _
        refine XS.dload X6.here hx rfl (hb hby at_49) rfl ?_
        show Steps p.tables e below (T6.setTop (mkF m 51 #[.val (.int p0), .val (.int p1), .val (.int ((p0 &&& (2147483647 : Int32)) % (6 : Int32))), .val (.ref u3), .val (.double (FP.ddiv (FP.i2d p1) (4620693217682128896 : UInt64))), .second, .val (.double (4607182418800017408 : UInt64)), .second, .val (.double (4607182418800017408 : UInt64)), .second] [(.double (4607182418800017408 : UInt64))])) _
        refine XS.dload X6.here hx rfl (hb hby at_51) rfl ?_
        show Steps p.tables e below (T6.setTop (mkF m 53 #[.val (.int p0), .val (.int p1), .val (.int ((p0 &&& (2147483647 : Int32)) % (6 : Int32))), .val (.ref u3), .val (.double (FP.ddiv (FP.i2d p1) (4620693217682128896 : UInt64))), .second, .val (.double (4607182418800017408 : UInt64)), .second, .val (.double (4607182418800017408 : UInt64)), .second] [(.double (4607182418800017408 : UInt64)), (.double (4607182418800017408 : UInt64))])) _
        refine XS.dcmpS X6.here hx rfl (hb hby at_53) rfl (v := (0 : Int32)) (dcmpV_self own_one .l) ?_
        show Steps p.tables e below (T6.setTop (mkF m 54 #[.val (.int p0), .val (.int p1), .val (.int ((p0 &&& (2147483647 : Int32)) % (6 : Int32))), .val (.ref u3), .val (.double (FP.ddiv (FP.i2d p1) (4620693217682128896 : UInt64))), .second, .val (.double (4607182418800017408 : UInt64)), .second, .val (.double (4607182418800017408 : UInt64)), .second] [(.int (0 : Int32))])) _
        refine XS.ifNo X6.here hx rfl (hb hby at_54) rfl (by decide) ?_
        show Steps p.tables e below (T6.setTop (mkF m 57 #[.val (.int p0), .val (.int p1), .val (.int ((p0 &&& (2147483647 : Int32)) % (6 : Int32))), .val (.ref u3), .val (.double (FP.ddiv (FP.i2d p1) (4620693217682128896 : UInt64))), .second, .val (.double (4607182418800017408 : UInt64)), .second, .val (.double (4607182418800017408 : UInt64)), .second] [])) _
        refine XS.iconst X6.here hx rfl (hb hby at_57) ?_
        show Steps p.tables e below (T6.setTop (mkF m 58 #[.val (.int p0), .val (.int p1), .val (.int ((p0 &&& (2147483647 : Int32)) % (6 : Int32))), .val (.ref u3), .val (.double (FP.ddiv (FP.i2d p1) (4620693217682128896 : UInt64))), .second, .val (.double (4607182418800017408 : UInt64)), .second, .val (.double (4607182418800017408 : UInt64)), .second] [(.int (1 : Int32))])) _
        refine XS.goto X6.here hx rfl (pc0 := 58) (pc' := 62) rfl (hb hby at_58) (by decide) (by decide) ?_
        show Steps p.tables e below (T6.setTop (mkF m 62 #[.val (.int p0), .val (.int p1), .val (.int ((p0 &&& (2147483647 : Int32)) % (6 : Int32))), .val (.ref u3), .val (.double (FP.ddiv (FP.i2d p1) (4620693217682128896 : UInt64))), .second, .val (.double (4607182418800017408 : UInt64)), .second, .val (.double (4607182418800017408 : UInt64)), .second] [(.int (1 : Int32))])) _
        exact retN X6 hx (t := .boolean) Bd.returns (by simp) (hb hby at_62) hr
      · show Q0 Z p0 p1 u0 u1 u2 u3 u4 u5 h0 n0 _ T6.heap _
        rw [eh6]
        exact ⟨N6, rfl⟩
  · subst hv1
    have hnn : Jvm.Free.Fl.NoNaN64 (FP.ddiv (FP.i2d p1) (4620693217682128896 : UInt64)) := Jvm.Free.Fl.ddiv_out (Jvm.Free.Fl.i2d_fin p1).noNaN own_q_fin own_q_nz
    obtain ⟨cq7, kq7, q7a, q7b, q7c⟩ := isOf hZ eh1 hE4
    obtain ⟨_, _, ⟨T7, L7, k7, n7⟩, -, X7, ⟨Lc7, hQ7, l7, y7, z7⟩, st7⟩ := X1.virtualBack hx (y := (⟨"com/example/multilingual_query_search/multilingualquerysearch/scoring/StructuredQueryMethod", "termFrequencyWeight", "(D)D"⟩ : MethodName)) (z := (⟨"com/example/multilingual_query_search/multilingualquerysearch/scoring/StructuredQueryMethod", "termFrequencyWeight", "(D)D"⟩ : MethodName)) hown (mvT hZ (own_k hw 9 rfl)) (mvT hZ (own_k hw 10 rfl)) (notFace_of_selects (args := #[]) (mvT hZ (own_k hw 12 rfl))) (mvT hZ (own_k hw 12 rfl)) (mvT hZ (own_k hw 11 rfl)) (by decide) (backOf (W := 0) (rm2 l Z a0 hw [] u4 (FP.ddiv (FP.i2d p1) (4620693217682128896 : UInt64)) (1 : Int32) h0 n0 Z0 hF4) hZ (own_k hw 13 rfl) (own_k hw 6 rfl) (by decide) (by decide)) q7a q7c (g := (mkF m 44 #[.val (.int p0), .val (.int p1), .val (.int ((p0 &&& (2147483647 : Int32)) % (6 : Int32))), .val (.ref u4), .val (.double (FP.ddiv (FP.i2d p1) (4620693217682128896 : UInt64))), .second, .val (.double (FP.ddiv (FP.i2d p1) (4620693217682128896 : UInt64))), .second, .unset, .unset] [(.double (FP.ddiv (FP.i2d p1) (4620693217682128896 : UInt64))), (.ref u4)])) rfl (by rw [hml]; rfl) (Steps.refl _) (argsL := [(.double (FP.ddiv (FP.i2d p1) (4620693217682128896 : UInt64)))]) (rest := []) (lenOf own_pd_1 rfl) rfl (by show 2 * 0 + _ ≤ _; exact Nat.le_of_eq rfl) (hb hby at_44) (fun _ _ => ⟨rfl, eh1, (by decide : 0 + 0 ≤ _), (by decide : 0 + 0 ≤ _)⟩)
    dsimp only [Pt.U, Pt.locs, Pt.cells, Pt.slots] at X7 l7 y7 z7 st7 hQ7
    subst l7 y7 z7
    obtain ⟨Nq7, eh7, hv7⟩ := hQ7
    have N7 := Fr.app N1 Nq7
    rcases hv7 with ⟨hv7, hd7_0⟩ | ⟨hv7, hd7_0⟩
    · subst hv7
      obtain ⟨fs, hr, hrun, hended, hW, hsame⟩ := X7.leave (v := (some (.int (1 : Int32)))) (fun h => by rw [Bd.returns] at h; cases h)
      refine ⟨_, _, pre2 _ ?_, hrun, hended, _, _, rfl, ?_, ⟨_, rfl⟩, hW, hsame.mono (by decide) (by decide)⟩
      · show Steps p.tables e below (s₁.setTop (mkF m 9 #[.val (.int p0), .val (.int p1), .val (.int ((p0 &&& (2147483647 : Int32)) % (6 : Int32))), .unset, .unset, .unset, .unset, .unset, .unset, .unset] [(.int ((p0 &&& (2147483647 : Int32)) % (6 : Int32)))])) _
        refine st1 _ ?_
        show Steps p.tables e below (T1.setTop (mkF m 12 #[.val (.int p0), .val (.int p1), .val (.int ((p0 &&& (2147483647 : Int32)) % (6 : Int32))), .unset, .unset, .unset, .unset, .unset, .unset, .unset] [(.ref u4)])) _
        refine XS.astoreN X1.here hx rfl (hb hby at_12) rfl rfl (l' := #[.val (.int p0), .val (.int p1), .val (.int ((p0 &&& (2147483647 : Int32)) % (6 : Int32))), .val (.ref u4), .unset, .unset, .unset, .unset, .unset, .unset]) rfl ?_
        show Steps p.tables e below (T1.setTop (mkF m 13 #[.val (.int p0), .val (.int p1), .val (.int ((p0 &&& (2147483647 : Int32)) % (6 : Int32))), .val (.ref u4), .unset, .unset, .unset, .unset, .unset, .unset] [])) _
        refine XS.iloadN X1.here hx rfl (hb hby at_13) rfl ?_
        show Steps p.tables e below (T1.setTop (mkF m 14 #[.val (.int p0), .val (.int p1), .val (.int ((p0 &&& (2147483647 : Int32)) % (6 : Int32))), .val (.ref u4), .unset, .unset, .unset, .unset, .unset, .unset] [(.int p1)])) _
        refine XS.i2dS X1.here hx rfl (hb hby at_14) rfl (v := FP.i2d p1) rfl ?_
        show Steps p.tables e below (T1.setTop (mkF m 15 #[.val (.int p0), .val (.int p1), .val (.int ((p0 &&& (2147483647 : Int32)) % (6 : Int32))), .val (.ref u4), .unset, .unset, .unset, .unset, .unset, .unset] [(.double (FP.i2d p1))])) _
        refine X1.ldc2DoubleC hx hown (mvT hZ (own_k hw 8 rfl)) (g := (mkF m 15 #[.val (.int p0), .val (.int p1), .val (.int ((p0 &&& (2147483647 : Int32)) % (6 : Int32))), .val (.ref u4), .unset, .unset, .unset, .unset, .unset, .unset] [(.double (FP.i2d p1))])) rfl (hb hby at_15) _ ?_
        show Steps p.tables e below (T1.setTop (mkF m 18 #[.val (.int p0), .val (.int p1), .val (.int ((p0 &&& (2147483647 : Int32)) % (6 : Int32))), .val (.ref u4), .unset, .unset, .unset, .unset, .unset, .unset] [(.double (4620693217682128896 : UInt64)), (.double (FP.i2d p1))])) _
        refine XS.ddivS X1.here hx rfl (hb hby at_18) rfl hnn (v := (FP.ddiv (FP.i2d p1) (4620693217682128896 : UInt64))) rfl ?_
        show Steps p.tables e below (T1.setTop (mkF m 19 #[.val (.int p0), .val (.int p1), .val (.int ((p0 &&& (2147483647 : Int32)) % (6 : Int32))), .val (.ref u4), .unset, .unset, .unset, .unset, .unset, .unset] [(.double (FP.ddiv (FP.i2d p1) (4620693217682128896 : UInt64)))])) _
        refine XS.dstore X1.here hx rfl (hb hby at_19) rfl (l' := #[.val (.int p0), .val (.int p1), .val (.int ((p0 &&& (2147483647 : Int32)) % (6 : Int32))), .val (.ref u4), .val (.double (FP.ddiv (FP.i2d p1) (4620693217682128896 : UInt64))), .second, .unset, .unset, .unset, .unset]) rfl ?_
        show Steps p.tables e below (T1.setTop (mkF m 21 #[.val (.int p0), .val (.int p1), .val (.int ((p0 &&& (2147483647 : Int32)) % (6 : Int32))), .val (.ref u4), .val (.double (FP.ddiv (FP.i2d p1) (4620693217682128896 : UInt64))), .second, .unset, .unset, .unset, .unset] [])) _
        refine XS.iloadN X1.here hx rfl (hb hby at_21) rfl ?_
        show Steps p.tables e below (T1.setTop (mkF m 22 #[.val (.int p0), .val (.int p1), .val (.int ((p0 &&& (2147483647 : Int32)) % (6 : Int32))), .val (.ref u4), .val (.double (FP.ddiv (FP.i2d p1) (4620693217682128896 : UInt64))), .second, .unset, .unset, .unset, .unset] [(.int ((p0 &&& (2147483647 : Int32)) % (6 : Int32)))])) _
        refine XS.iconst X1.here hx rfl (hb hby at_22) ?_
        show Steps p.tables e below (T1.setTop (mkF m 23 #[.val (.int p0), .val (.int p1), .val (.int ((p0 &&& (2147483647 : Int32)) % (6 : Int32))), .val (.ref u4), .val (.double (FP.ddiv (FP.i2d p1) (4620693217682128896 : UInt64))), .second, .unset, .unset, .unset, .unset] [(.int (4 : Int32)), (.int ((p0 &&& (2147483647 : Int32)) % (6 : Int32)))])) _
        refine XS.icmpYes X1.here hx rfl (pc0 := 23) (pc' := 31) rfl (hb hby at_23) rfl (teq hd1_0).1 (by decide) (by decide) ?_
        show Steps p.tables e below (T1.setTop (mkF m 31 #[.val (.int p0), .val (.int p1), .val (.int ((p0 &&& (2147483647 : Int32)) % (6 : Int32))), .val (.ref u4), .val (.double (FP.ddiv (FP.i2d p1) (4620693217682128896 : UInt64))), .second, .unset, .unset, .unset, .unset] [])) _
        refine XS.dload X1.here hx rfl (hb hby at_31) rfl ?_
        show Steps p.tables e below (T1.setTop (mkF m 33 #[.val (.int p0), .val (.int p1), .val (.int ((p0 &&& (2147483647 : Int32)) % (6 : Int32))), .val (.ref u4), .val (.double (FP.ddiv (FP.i2d p1) (4620693217682128896 : UInt64))), .second, .unset, .unset, .unset, .unset] [(.double (FP.ddiv (FP.i2d p1) (4620693217682128896 : UInt64)))])) _
        refine XS.dstore X1.here hx rfl (hb hby at_33) rfl (l' := #[.val (.int p0), .val (.int p1), .val (.int ((p0 &&& (2147483647 : Int32)) % (6 : Int32))), .val (.ref u4), .val (.double (FP.ddiv (FP.i2d p1) (4620693217682128896 : UInt64))), .second, .val (.double (FP.ddiv (FP.i2d p1) (4620693217682128896 : UInt64))), .second, .unset, .unset]) rfl ?_
        show Steps p.tables e below (T1.setTop (mkF m 35 #[.val (.int p0), .val (.int p1), .val (.int ((p0 &&& (2147483647 : Int32)) % (6 : Int32))), .val (.ref u4), .val (.double (FP.ddiv (FP.i2d p1) (4620693217682128896 : UInt64))), .second, .val (.double (FP.ddiv (FP.i2d p1) (4620693217682128896 : UInt64))), .second, .unset, .unset] [])) _
        refine XS.goto X1.here hx rfl (pc0 := 35) (pc' := 41) rfl (hb hby at_35) (by decide) (by decide) ?_
        show Steps p.tables e below (T1.setTop (mkF m 41 #[.val (.int p0), .val (.int p1), .val (.int ((p0 &&& (2147483647 : Int32)) % (6 : Int32))), .val (.ref u4), .val (.double (FP.ddiv (FP.i2d p1) (4620693217682128896 : UInt64))), .second, .val (.double (FP.ddiv (FP.i2d p1) (4620693217682128896 : UInt64))), .second, .unset, .unset] [])) _
        refine XS.aloadN X1.here hx rfl (hb hby at_41) rfl rfl ?_
        show Steps p.tables e below (T1.setTop (mkF m 42 #[.val (.int p0), .val (.int p1), .val (.int ((p0 &&& (2147483647 : Int32)) % (6 : Int32))), .val (.ref u4), .val (.double (FP.ddiv (FP.i2d p1) (4620693217682128896 : UInt64))), .second, .val (.double (FP.ddiv (FP.i2d p1) (4620693217682128896 : UInt64))), .second, .unset, .unset] [(.ref u4)])) _
        refine XS.dload X1.here hx rfl (hb hby at_42) rfl ?_
        show Steps p.tables e below (T1.setTop (mkF m 44 #[.val (.int p0), .val (.int p1), .val (.int ((p0 &&& (2147483647 : Int32)) % (6 : Int32))), .val (.ref u4), .val (.double (FP.ddiv (FP.i2d p1) (4620693217682128896 : UInt64))), .second, .val (.double (FP.ddiv (FP.i2d p1) (4620693217682128896 : UInt64))), .second, .unset, .unset] [(.double (FP.ddiv (FP.i2d p1) (4620693217682128896 : UInt64))), (.ref u4)])) _
        refine st7.trans ?_
        show Steps p.tables e below (T7.setTop (mkF m 47 #[.val (.int p0), .val (.int p1), .val (.int ((p0 &&& (2147483647 : Int32)) % (6 : Int32))), .val (.ref u4), .val (.double (FP.ddiv (FP.i2d p1) (4620693217682128896 : UInt64))), .second, .val (.double (FP.ddiv (FP.i2d p1) (4620693217682128896 : UInt64))), .second, .unset, .unset] [(.double (FP.ddiv (FP.i2d p1) (4620693217682128896 : UInt64)))])) _
        refine XS.dstore X7.here hx rfl (hb hby at_47) rfl (l' := #[.val (.int p0), .val (.int p1), .val (.int ((p0 &&& (2147483647 : Int32)) % (6 : Int32))), .val (.ref u4), .val (.double (FP.ddiv (FP.i2d p1) (4620693217682128896 : UInt64))), .second, .val (.double (FP.ddiv (FP.i2d p1) (4620693217682128896 : UInt64))), .second, .val (.double (FP.ddiv (FP.i2d p1) (4620693217682128896 : UInt64))), .second]) rfl ?_
        show Steps p.tables e below (T7.setTop (mkF m 49 #[.val (.int p0), .val (.int p1), .val (.int ((p0 &&& (2147483647 : Int32)) % (6 : Int32))), .val (.ref u4), .val (.double (FP.ddiv (FP.i2d p1) (4620693217682128896 : UInt64))), .second, .val (.double (FP.ddiv (FP.i2d p1) (4620693217682128896 : UInt64))), .second, .val (.double (FP.ddiv (FP.i2d p1) (4620693217682128896 : UInt64))), .second] [])) _
        refine XS.dload X7.here hx rfl (hb hby at_49) rfl ?_
        show Steps p.tables e below (T7.setTop (mkF m 51 #[.val (.int p0), .val (.int p1), .val (.int ((p0 &&& (2147483647 : Int32)) % (6 : Int32))), .val (.ref u4), .val (.double (FP.ddiv (FP.i2d p1) (4620693217682128896 : UInt64))), .second, .val (.double (FP.ddiv (FP.i2d p1) (4620693217682128896 : UInt64))), .second, .val (.double (FP.ddiv (FP.i2d p1) (4620693217682128896 : UInt64))), .second] [(.double (FP.ddiv (FP.i2d p1) (4620693217682128896 : UInt64)))])) _
        refine XS.dload X7.here hx rfl (hb hby at_51) rfl ?_
        show Steps p.tables e below (T7.setTop (mkF m 53 #[.val (.int p0), .val (.int p1), .val (.int ((p0 &&& (2147483647 : Int32)) % (6 : Int32))), .val (.ref u4), .val (.double (FP.ddiv (FP.i2d p1) (4620693217682128896 : UInt64))), .second, .val (.double (FP.ddiv (FP.i2d p1) (4620693217682128896 : UInt64))), .second, .val (.double (FP.ddiv (FP.i2d p1) (4620693217682128896 : UInt64))), .second] [(.double (FP.ddiv (FP.i2d p1) (4620693217682128896 : UInt64))), (.double (FP.ddiv (FP.i2d p1) (4620693217682128896 : UInt64)))])) _
        refine XS.dcmpS X7.here hx rfl (hb hby at_53) rfl (v := (0 : Int32)) (dcmpV_self hnn .l) ?_
        show Steps p.tables e below (T7.setTop (mkF m 54 #[.val (.int p0), .val (.int p1), .val (.int ((p0 &&& (2147483647 : Int32)) % (6 : Int32))), .val (.ref u4), .val (.double (FP.ddiv (FP.i2d p1) (4620693217682128896 : UInt64))), .second, .val (.double (FP.ddiv (FP.i2d p1) (4620693217682128896 : UInt64))), .second, .val (.double (FP.ddiv (FP.i2d p1) (4620693217682128896 : UInt64))), .second] [(.int (0 : Int32))])) _
        refine XS.ifNo X7.here hx rfl (hb hby at_54) rfl (by decide) ?_
        show Steps p.tables e below (T7.setTop (mkF m 57 #[.val (.int p0), .val (.int p1), .val (.int ((p0 &&& (2147483647 : Int32)) % (6 : Int32))), .val (.ref u4), .val (.double (FP.ddiv (FP.i2d p1) (4620693217682128896 : UInt64))), .second, .val (.double (FP.ddiv (FP.i2d p1) (4620693217682128896 : UInt64))), .second, .val (.double (FP.ddiv (FP.i2d p1) (4620693217682128896 : UInt64))), .second] [])) _
        refine XS.iconst X7.here hx rfl (hb hby at_57) ?_
        show Steps p.tables e below (T7.setTop (mkF m 58 #[.val (.int p0), .val (.int p1), .val (.int ((p0 &&& (2147483647 : Int32)) % (6 : Int32))), .val (.ref u4), .val (.double (FP.ddiv (FP.i2d p1) (4620693217682128896 : UInt64))), .second, .val (.double (FP.ddiv (FP.i2d p1) (4620693217682128896 : UInt64))), .second, .val (.double (FP.ddiv (FP.i2d p1) (4620693217682128896 : UInt64))), .second] [(.int (1 : Int32))])) _
        refine XS.goto X7.here hx rfl (pc0 := 58) (pc' := 62) rfl (hb hby at_58) (by decide) (by decide) ?_
        show Steps p.tables e below (T7.setTop (mkF m 62 #[.val (.int p0), .val (.int p1), .val (.int ((p0 &&& (2147483647 : Int32)) % (6 : Int32))), .val (.ref u4), .val (.double (FP.ddiv (FP.i2d p1) (4620693217682128896 : UInt64))), .second, .val (.double (FP.ddiv (FP.i2d p1) (4620693217682128896 : UInt64))), .second, .val (.double (FP.ddiv (FP.i2d p1) (4620693217682128896 : UInt64))), .second] [(.int (1 : Int32))])) _
        exact retN X7 hx (t := .boolean) Bd.returns (by simp) (hb hby at_62) hr
      · show Q0 Z p0 p1 u0 u1 u2 u3 u4 u5 h0 n0 _ T7.heap _
        rw [eh7]
        exact ⟨N7, rfl⟩
    · subst hv7
      exact absurd hd7_0 (by decide)
  · subst hv1
    have hnn : Jvm.Free.Fl.NoNaN64 (FP.ddiv (FP.i2d p1) (4620693217682128896 : UInt64)) := Jvm.Free.Fl.ddiv_out (Jvm.Free.Fl.i2d_fin p1).noNaN own_q_fin own_q_nz
    obtain ⟨cq8, kq8, q8a, q8b, q8c⟩ := isOf hZ eh1 hE5
    obtain ⟨_, _, ⟨T8, L8, k8, n8⟩, -, X8, ⟨Lc8, hQ8, l8, y8, z8⟩, st8⟩ := X1.virtualBack hx (y := (⟨"com/example/multilingual_query_search/multilingualquerysearch/scoring/StructuredQueryMethod", "termFrequencyWeight", "(D)D"⟩ : MethodName)) (z := (⟨"com/example/multilingual_query_search/multilingualquerysearch/scoring/StructuredQueryMethod", "termFrequencyWeight", "(D)D"⟩ : MethodName)) hown (mvT hZ (own_k hw 9 rfl)) (mvT hZ (own_k hw 10 rfl)) (notFace_of_selects (args := #[]) (mvT hZ (own_k hw 12 rfl))) (mvT hZ (own_k hw 12 rfl)) (mvT hZ (own_k hw 11 rfl)) (by decide) (backOf (W := 0) (rm2 l Z a0 hw [] u5 (FP.ddiv (FP.i2d p1) (4620693217682128896 : UInt64)) (1 : Int32) h0 n0 Z0 hF5) hZ (own_k hw 13 rfl) (own_k hw 6 rfl) (by decide) (by decide)) q8a q8c (g := (mkF m 44 #[.val (.int p0), .val (.int p1), .val (.int ((p0 &&& (2147483647 : Int32)) % (6 : Int32))), .val (.ref u5), .val (.double (FP.ddiv (FP.i2d p1) (4620693217682128896 : UInt64))), .second, .val (.double (FP.ddiv (FP.i2d p1) (4620693217682128896 : UInt64))), .second, .unset, .unset] [(.double (FP.ddiv (FP.i2d p1) (4620693217682128896 : UInt64))), (.ref u5)])) rfl (by rw [hml]; rfl) (Steps.refl _) (argsL := [(.double (FP.ddiv (FP.i2d p1) (4620693217682128896 : UInt64)))]) (rest := []) (lenOf own_pd_1 rfl) rfl (by show 2 * 0 + _ ≤ _; exact Nat.le_of_eq rfl) (hb hby at_44) (fun _ _ => ⟨rfl, eh1, (by decide : 0 + 0 ≤ _), (by decide : 0 + 0 ≤ _)⟩)
    dsimp only [Pt.U, Pt.locs, Pt.cells, Pt.slots] at X8 l8 y8 z8 st8 hQ8
    subst l8 y8 z8
    obtain ⟨Nq8, eh8, hv8⟩ := hQ8
    have N8 := Fr.app N1 Nq8
    rcases hv8 with ⟨hv8, hd8_0⟩ | ⟨hv8, hd8_0⟩
    · subst hv8
      obtain ⟨fs, hr, hrun, hended, hW, hsame⟩ := X8.leave (v := (some (.int (1 : Int32)))) (fun h => by rw [Bd.returns] at h; cases h)
      refine ⟨_, _, pre2 _ ?_, hrun, hended, _, _, rfl, ?_, ⟨_, rfl⟩, hW, hsame.mono (by decide) (by decide)⟩
      · show Steps p.tables e below (s₁.setTop (mkF m 9 #[.val (.int p0), .val (.int p1), .val (.int ((p0 &&& (2147483647 : Int32)) % (6 : Int32))), .unset, .unset, .unset, .unset, .unset, .unset, .unset] [(.int ((p0 &&& (2147483647 : Int32)) % (6 : Int32)))])) _
        refine st1 _ ?_
        show Steps p.tables e below (T1.setTop (mkF m 12 #[.val (.int p0), .val (.int p1), .val (.int ((p0 &&& (2147483647 : Int32)) % (6 : Int32))), .unset, .unset, .unset, .unset, .unset, .unset, .unset] [(.ref u5)])) _
        refine XS.astoreN X1.here hx rfl (hb hby at_12) rfl rfl (l' := #[.val (.int p0), .val (.int p1), .val (.int ((p0 &&& (2147483647 : Int32)) % (6 : Int32))), .val (.ref u5), .unset, .unset, .unset, .unset, .unset, .unset]) rfl ?_
        show Steps p.tables e below (T1.setTop (mkF m 13 #[.val (.int p0), .val (.int p1), .val (.int ((p0 &&& (2147483647 : Int32)) % (6 : Int32))), .val (.ref u5), .unset, .unset, .unset, .unset, .unset, .unset] [])) _
        refine XS.iloadN X1.here hx rfl (hb hby at_13) rfl ?_
        show Steps p.tables e below (T1.setTop (mkF m 14 #[.val (.int p0), .val (.int p1), .val (.int ((p0 &&& (2147483647 : Int32)) % (6 : Int32))), .val (.ref u5), .unset, .unset, .unset, .unset, .unset, .unset] [(.int p1)])) _
        refine XS.i2dS X1.here hx rfl (hb hby at_14) rfl (v := FP.i2d p1) rfl ?_
        show Steps p.tables e below (T1.setTop (mkF m 15 #[.val (.int p0), .val (.int p1), .val (.int ((p0 &&& (2147483647 : Int32)) % (6 : Int32))), .val (.ref u5), .unset, .unset, .unset, .unset, .unset, .unset] [(.double (FP.i2d p1))])) _
        refine X1.ldc2DoubleC hx hown (mvT hZ (own_k hw 8 rfl)) (g := (mkF m 15 #[.val (.int p0), .val (.int p1), .val (.int ((p0 &&& (2147483647 : Int32)) % (6 : Int32))), .val (.ref u5), .unset, .unset, .unset, .unset, .unset, .unset] [(.double (FP.i2d p1))])) rfl (hb hby at_15) _ ?_
        show Steps p.tables e below (T1.setTop (mkF m 18 #[.val (.int p0), .val (.int p1), .val (.int ((p0 &&& (2147483647 : Int32)) % (6 : Int32))), .val (.ref u5), .unset, .unset, .unset, .unset, .unset, .unset] [(.double (4620693217682128896 : UInt64)), (.double (FP.i2d p1))])) _
        refine XS.ddivS X1.here hx rfl (hb hby at_18) rfl hnn (v := (FP.ddiv (FP.i2d p1) (4620693217682128896 : UInt64))) rfl ?_
        show Steps p.tables e below (T1.setTop (mkF m 19 #[.val (.int p0), .val (.int p1), .val (.int ((p0 &&& (2147483647 : Int32)) % (6 : Int32))), .val (.ref u5), .unset, .unset, .unset, .unset, .unset, .unset] [(.double (FP.ddiv (FP.i2d p1) (4620693217682128896 : UInt64)))])) _
        refine XS.dstore X1.here hx rfl (hb hby at_19) rfl (l' := #[.val (.int p0), .val (.int p1), .val (.int ((p0 &&& (2147483647 : Int32)) % (6 : Int32))), .val (.ref u5), .val (.double (FP.ddiv (FP.i2d p1) (4620693217682128896 : UInt64))), .second, .unset, .unset, .unset, .unset]) rfl ?_
        show Steps p.tables e below (T1.setTop (mkF m 21 #[.val (.int p0), .val (.int p1), .val (.int ((p0 &&& (2147483647 : Int32)) % (6 : Int32))), .val (.ref u5), .val (.double (FP.ddiv (FP.i2d p1) (4620693217682128896 : UInt64))), .second, .unset, .unset, .unset, .unset] [])) _
        refine XS.iloadN X1.here hx rfl (hb hby at_21) rfl ?_
        show Steps p.tables e below (T1.setTop (mkF m 22 #[.val (.int p0), .val (.int p1), .val (.int ((p0 &&& (2147483647 : Int32)) % (6 : Int32))), .val (.ref u5), .val (.double (FP.ddiv (FP.i2d p1) (4620693217682128896 : UInt64))), .second, .unset, .unset, .unset, .unset] [(.int ((p0 &&& (2147483647 : Int32)) % (6 : Int32)))])) _
        refine XS.iconst X1.here hx rfl (hb hby at_22) ?_
        show Steps p.tables e below (T1.setTop (mkF m 23 #[.val (.int p0), .val (.int p1), .val (.int ((p0 &&& (2147483647 : Int32)) % (6 : Int32))), .val (.ref u5), .val (.double (FP.ddiv (FP.i2d p1) (4620693217682128896 : UInt64))), .second, .unset, .unset, .unset, .unset] [(.int (4 : Int32)), (.int ((p0 &&& (2147483647 : Int32)) % (6 : Int32)))])) _
        refine XS.icmpNo X1.here hx rfl (hb hby at_23) rfl (feq hd1_4).1 ?_
        show Steps p.tables e below (T1.setTop (mkF m 26 #[.val (.int p0), .val (.int p1), .val (.int ((p0 &&& (2147483647 : Int32)) % (6 : Int32))), .val (.ref u5), .val (.double (FP.ddiv (FP.i2d p1) (4620693217682128896 : UInt64))), .second, .unset, .unset, .unset, .unset] [])) _
        refine XS.iloadN X1.here hx rfl (hb hby at_26) rfl ?_
        show Steps p.tables e below (T1.setTop (mkF m 27 #[.val (.int p0), .val (.int p1), .val (.int ((p0 &&& (2147483647 : Int32)) % (6 : Int32))), .val (.ref u5), .val (.double (FP.ddiv (FP.i2d p1) (4620693217682128896 : UInt64))), .second, .unset, .unset, .unset, .unset] [(.int ((p0 &&& (2147483647 : Int32)) % (6 : Int32)))])) _
        refine XS.iconst X1.here hx rfl (hb hby at_27) ?_
        show Steps p.tables e below (T1.setTop (mkF m 28 #[.val (.int p0), .val (.int p1), .val (.int ((p0 &&& (2147483647 : Int32)) % (6 : Int32))), .val (.ref u5), .val (.double (FP.ddiv (FP.i2d p1) (4620693217682128896 : UInt64))), .second, .unset, .unset, .unset, .unset] [(.int (5 : Int32)), (.int ((p0 &&& (2147483647 : Int32)) % (6 : Int32)))])) _
        refine XS.icmpNo X1.here hx rfl (hb hby at_28) rfl (teq (own_k5 p0 hd1_0 hd1_1 hd1_2 hd1_3 hd1_4)).2 ?_
        show Steps p.tables e below (T1.setTop (mkF m 31 #[.val (.int p0), .val (.int p1), .val (.int ((p0 &&& (2147483647 : Int32)) % (6 : Int32))), .val (.ref u5), .val (.double (FP.ddiv (FP.i2d p1) (4620693217682128896 : UInt64))), .second, .unset, .unset, .unset, .unset] [])) _
        refine XS.dload X1.here hx rfl (hb hby at_31) rfl ?_
        show Steps p.tables e below (T1.setTop (mkF m 33 #[.val (.int p0), .val (.int p1), .val (.int ((p0 &&& (2147483647 : Int32)) % (6 : Int32))), .val (.ref u5), .val (.double (FP.ddiv (FP.i2d p1) (4620693217682128896 : UInt64))), .second, .unset, .unset, .unset, .unset] [(.double (FP.ddiv (FP.i2d p1) (4620693217682128896 : UInt64)))])) _
        refine XS.dstore X1.here hx rfl (hb hby at_33) rfl (l' := #[.val (.int p0), .val (.int p1), .val (.int ((p0 &&& (2147483647 : Int32)) % (6 : Int32))), .val (.ref u5), .val (.double (FP.ddiv (FP.i2d p1) (4620693217682128896 : UInt64))), .second, .val (.double (FP.ddiv (FP.i2d p1) (4620693217682128896 : UInt64))), .second, .unset, .unset]) rfl ?_
        show Steps p.tables e below (T1.setTop (mkF m 35 #[.val (.int p0), .val (.int p1), .val (.int ((p0 &&& (2147483647 : Int32)) % (6 : Int32))), .val (.ref u5), .val (.double (FP.ddiv (FP.i2d p1) (4620693217682128896 : UInt64))), .second, .val (.double (FP.ddiv (FP.i2d p1) (4620693217682128896 : UInt64))), .second, .unset, .unset] [])) _
        refine XS.goto X1.here hx rfl (pc0 := 35) (pc' := 41) rfl (hb hby at_35) (by decide) (by decide) ?_
        show Steps p.tables e below (T1.setTop (mkF m 41 #[.val (.int p0), .val (.int p1), .val (.int ((p0 &&& (2147483647 : Int32)) % (6 : Int32))), .val (.ref u5), .val (.double (FP.ddiv (FP.i2d p1) (4620693217682128896 : UInt64))), .second, .val (.double (FP.ddiv (FP.i2d p1) (4620693217682128896 : UInt64))), .second, .unset, .unset] [])) _
        refine XS.aloadN X1.here hx rfl (hb hby at_41) rfl rfl ?_
        show Steps p.tables e below (T1.setTop (mkF m 42 #[.val (.int p0), .val (.int p1), .val (.int ((p0 &&& (2147483647 : Int32)) % (6 : Int32))), .val (.ref u5), .val (.double (FP.ddiv (FP.i2d p1) (4620693217682128896 : UInt64))), .second, .val (.double (FP.ddiv (FP.i2d p1) (4620693217682128896 : UInt64))), .second, .unset, .unset] [(.ref u5)])) _
        refine XS.dload X1.here hx rfl (hb hby at_42) rfl ?_
        show Steps p.tables e below (T1.setTop (mkF m 44 #[.val (.int p0), .val (.int p1), .val (.int ((p0 &&& (2147483647 : Int32)) % (6 : Int32))), .val (.ref u5), .val (.double (FP.ddiv (FP.i2d p1) (4620693217682128896 : UInt64))), .second, .val (.double (FP.ddiv (FP.i2d p1) (4620693217682128896 : UInt64))), .second, .unset, .unset] [(.double (FP.ddiv (FP.i2d p1) (4620693217682128896 : UInt64))), (.ref u5)])) _
        refine st8.trans ?_
        show Steps p.tables e below (T8.setTop (mkF m 47 #[.val (.int p0), .val (.int p1), .val (.int ((p0 &&& (2147483647 : Int32)) % (6 : Int32))), .val (.ref u5), .val (.double (FP.ddiv (FP.i2d p1) (4620693217682128896 : UInt64))), .second, .val (.double (FP.ddiv (FP.i2d p1) (4620693217682128896 : UInt64))), .second, .unset, .unset] [(.double (FP.ddiv (FP.i2d p1) (4620693217682128896 : UInt64)))])) _
        refine XS.dstore X8.here hx rfl (hb hby at_47) rfl (l' := #[.val (.int p0), .val (.int p1), .val (.int ((p0 &&& (2147483647 : Int32)) % (6 : Int32))), .val (.ref u5), .val (.double (FP.ddiv (FP.i2d p1) (4620693217682128896 : UInt64))), .second, .val (.double (FP.ddiv (FP.i2d p1) (4620693217682128896 : UInt64))), .second, .val (.double (FP.ddiv (FP.i2d p1) (4620693217682128896 : UInt64))), .second]) rfl ?_
        show Steps p.tables e below (T8.setTop (mkF m 49 #[.val (.int p0), .val (.int p1), .val (.int ((p0 &&& (2147483647 : Int32)) % (6 : Int32))), .val (.ref u5), .val (.double (FP.ddiv (FP.i2d p1) (4620693217682128896 : UInt64))), .second, .val (.double (FP.ddiv (FP.i2d p1) (4620693217682128896 : UInt64))), .second, .val (.double (FP.ddiv (FP.i2d p1) (4620693217682128896 : UInt64))), .second] [])) _
        refine XS.dload X8.here hx rfl (hb hby at_49) rfl ?_
        show Steps p.tables e below (T8.setTop (mkF m 51 #[.val (.int p0), .val (.int p1), .val (.int ((p0 &&& (2147483647 : Int32)) % (6 : Int32))), .val (.ref u5), .val (.double (FP.ddiv (FP.i2d p1) (4620693217682128896 : UInt64))), .second, .val (.double (FP.ddiv (FP.i2d p1) (4620693217682128896 : UInt64))), .second, .val (.double (FP.ddiv (FP.i2d p1) (4620693217682128896 : UInt64))), .second] [(.double (FP.ddiv (FP.i2d p1) (4620693217682128896 : UInt64)))])) _
        refine XS.dload X8.here hx rfl (hb hby at_51) rfl ?_
        show Steps p.tables e below (T8.setTop (mkF m 53 #[.val (.int p0), .val (.int p1), .val (.int ((p0 &&& (2147483647 : Int32)) % (6 : Int32))), .val (.ref u5), .val (.double (FP.ddiv (FP.i2d p1) (4620693217682128896 : UInt64))), .second, .val (.double (FP.ddiv (FP.i2d p1) (4620693217682128896 : UInt64))), .second, .val (.double (FP.ddiv (FP.i2d p1) (4620693217682128896 : UInt64))), .second] [(.double (FP.ddiv (FP.i2d p1) (4620693217682128896 : UInt64))), (.double (FP.ddiv (FP.i2d p1) (4620693217682128896 : UInt64)))])) _
        refine XS.dcmpS X8.here hx rfl (hb hby at_53) rfl (v := (0 : Int32)) (dcmpV_self hnn .l) ?_
        show Steps p.tables e below (T8.setTop (mkF m 54 #[.val (.int p0), .val (.int p1), .val (.int ((p0 &&& (2147483647 : Int32)) % (6 : Int32))), .val (.ref u5), .val (.double (FP.ddiv (FP.i2d p1) (4620693217682128896 : UInt64))), .second, .val (.double (FP.ddiv (FP.i2d p1) (4620693217682128896 : UInt64))), .second, .val (.double (FP.ddiv (FP.i2d p1) (4620693217682128896 : UInt64))), .second] [(.int (0 : Int32))])) _
        refine XS.ifNo X8.here hx rfl (hb hby at_54) rfl (by decide) ?_
        show Steps p.tables e below (T8.setTop (mkF m 57 #[.val (.int p0), .val (.int p1), .val (.int ((p0 &&& (2147483647 : Int32)) % (6 : Int32))), .val (.ref u5), .val (.double (FP.ddiv (FP.i2d p1) (4620693217682128896 : UInt64))), .second, .val (.double (FP.ddiv (FP.i2d p1) (4620693217682128896 : UInt64))), .second, .val (.double (FP.ddiv (FP.i2d p1) (4620693217682128896 : UInt64))), .second] [])) _
        refine XS.iconst X8.here hx rfl (hb hby at_57) ?_
        show Steps p.tables e below (T8.setTop (mkF m 58 #[.val (.int p0), .val (.int p1), .val (.int ((p0 &&& (2147483647 : Int32)) % (6 : Int32))), .val (.ref u5), .val (.double (FP.ddiv (FP.i2d p1) (4620693217682128896 : UInt64))), .second, .val (.double (FP.ddiv (FP.i2d p1) (4620693217682128896 : UInt64))), .second, .val (.double (FP.ddiv (FP.i2d p1) (4620693217682128896 : UInt64))), .second] [(.int (1 : Int32))])) _
        refine XS.goto X8.here hx rfl (pc0 := 58) (pc' := 62) rfl (hb hby at_58) (by decide) (by decide) ?_
        show Steps p.tables e below (T8.setTop (mkF m 62 #[.val (.int p0), .val (.int p1), .val (.int ((p0 &&& (2147483647 : Int32)) % (6 : Int32))), .val (.ref u5), .val (.double (FP.ddiv (FP.i2d p1) (4620693217682128896 : UInt64))), .second, .val (.double (FP.ddiv (FP.i2d p1) (4620693217682128896 : UInt64))), .second, .val (.double (FP.ddiv (FP.i2d p1) (4620693217682128896 : UInt64))), .second] [(.int (1 : Int32))])) _
        exact retN X8 hx (t := .boolean) Bd.returns (by simp) (hb hby at_62) hr
      · show Q0 Z p0 p1 u0 u1 u2 u3 u4 u5 h0 n0 _ T8.heap _
        rw [eh8]
        exact ⟨N8, rfl⟩
    · subst hv8
      exact absurd hd8_0 (by decide)
theorem own_fld {args : Array Value} {s : State} {t : Term} {x : Addr} {C n d : String} {k : Int32} (ht : t.eval args s none [] s = some (.ref x)) (h : (Jvm.Cond.eq (Term.field t C n d) (Term.int k)).value args s none s [] = some true) : Fld s s.heap x C n d (.int k) := by
  obtain ⟨v, w, e1, e2, k1, k2⟩ := cmp_v (Or.inl h)
  have e3 := Term.int_eval (args := args) (first := s) (o := none) (idx := []) (s := s) k
  cases Option.some.inj (e2.symm.trans e3)
  obtain ⟨z, rfl⟩ := k2
  have q : z = k := gotT (Cond.eq_ints e1 e3) h
  subst q
  rw [fld_at ht] at e1
  exact Fld.start e1
set_option maxRecDepth 65536 in
set_option maxHeartbeats 40000000 in
theorem comes_1 {Post : Tables → Env → Array Value → State → Outcome → State → Prop} (hpost : ∀ tb e args s v u, (limb_1_1.after args s (.returned v) u = true ∧ limb_1_2.after args s (.returned v) u = true ∧ True) → FrameEnd s (.returned v) u (Jvm.fieldLocs frame_1_writes args s ++ Jvm.arrayLocs frame_1_arrays args s ++ Jvm.staticLocs frame_1_statics s) 0 0 → Post tb e args s (.returned v) u) :
    ArmFor flags0 classFile x code maxLocals ret World_1 tables_1 room_1 Calls_1 rest_1 Pre_1 Post := by
  intro l hfl _ _ p e ha hc hk s m args below hf hA hF happ hP
  obtain ⟨hcalls, hrest, hpre⟩ := hP
  obtain ⟨-, -, -, hnamed, -, -, -, hat⟩ := (Spec.applies_iff hf).mp happ
  obtain ⟨hg, hn⟩ := and_e (Cond.before_iff.mp (show (Jvm.Cond.and given_1 narrow_1).before args s = true from hpre))
  obtain ⟨gv1, gv2⟩ := and_e hg
  obtain ⟨gv3, gv4⟩ := and_e gv2
  obtain ⟨w0, w1, rfl⟩ : ∃ w0 w1 : Value, args = #[w0, w1] := by
    have hs : args.size = 2 := by simpa [Cond.value, given_1] using gv1
    obtain ⟨L⟩ := args
    match L, hs with
    | [w0, w1], _ => exact ⟨w0, w1, rfl⟩
  have hw := fun d (hd : d ∈ tables_1) => atoms_spec (ws := Jvm.Cond.code x code maxLocals ret :: tables_1) hat d (List.mem_cons_of_mem _ hd)
  have hfit : Fit s := fun {y c} hc i hi => by
    obtain ⟨ha, rfl⟩ := Array.getElem?_eq_some_iff.mp hc
    have q := List.all_eq_true.mp ((Array.all_eq_true_iff_forall_mem.mp hF) _ (Array.getElem_mem ha)) i (List.mem_range.mpr hi)
    simpa [Array.getElem?_eq_getElem hi] using q
  obtain ⟨i0, ei0⟩ := is_v gv3
  obtain rfl : w0 = (.int i0) := Option.some.inj ei0
  obtain ⟨i1, ei1⟩ := is_v gv4
  obtain rfl : w1 = (.int i1) := Option.some.inj ei1
  obtain ⟨nx0, nr0⟩ := and_e hn
  obtain ⟨ne0, nr0'⟩ := and_e nr0
  obtain ⟨u0, ev0⟩ := exa_v nx0
  have hS0 : Sta s s.heap "com/example/multilingual_query_search/multilingualquerysearch/scoring/StructuredQueryMethod" "PIRKOLA" "Lcom/example/multilingual_query_search/multilingualquerysearch/scoring/StructuredQueryMethod;" (.ref u0) := Sta.start ev0 (Or.inr ⟨(own_k hw 6 rfl), (own_k hw 7 rfl)⟩)
  have hE0 : Exa s s.heap u0 "com/example/multilingual_query_search/multilingualquerysearch/scoring/StructuredQueryMethod" := Exa.start ev0 nx0
  have hF0 := own_fld ev0 ne0
  obtain ⟨nx2, nr2⟩ := and_e nr0'
  obtain ⟨ne2, nr2'⟩ := and_e nr2
  obtain ⟨u2, ev2⟩ := exa_v nx2
  have hS2 : Sta s s.heap "com/example/multilingual_query_search/multilingualquerysearch/scoring/StructuredQueryMethod" "MDF" "Lcom/example/multilingual_query_search/multilingualquerysearch/scoring/StructuredQueryMethod;" (.ref u2) := Sta.start ev2 (Or.inr ⟨(own_k hw 6 rfl), (own_k hw 17 rfl)⟩)
  have hE2 : Exa s s.heap u2 "com/example/multilingual_query_search/multilingualquerysearch/scoring/StructuredQueryMethod" := Exa.start ev2 nx2
  have hF2 := own_fld ev2 ne2
  obtain ⟨nx4, nr4⟩ := and_e nr2'
  obtain ⟨ne4, nr4'⟩ := and_e nr4
  obtain ⟨u4, ev4⟩ := exa_v nx4
  have hS4 : Sta s s.heap "com/example/multilingual_query_search/multilingualquerysearch/scoring/StructuredQueryMethod" "WTF" "Lcom/example/multilingual_query_search/multilingualquerysearch/scoring/StructuredQueryMethod;" (.ref u4) := Sta.start ev4 (Or.inr ⟨(own_k hw 6 rfl), (own_k hw 19 rfl)⟩)
  have hE4 : Exa s s.heap u4 "com/example/multilingual_query_search/multilingualquerysearch/scoring/StructuredQueryMethod" := Exa.start ev4 nx4
  have hF4 := own_fld ev4 ne4
  obtain ⟨nx1, nr1⟩ := and_e nr4'
  obtain ⟨ne1, nr1'⟩ := and_e nr1
  obtain ⟨u1, ev1⟩ := exa_v nx1
  have hS1 : Sta s s.heap "com/example/multilingual_query_search/multilingualquerysearch/scoring/StructuredQueryMethod" "KWOK" "Lcom/example/multilingual_query_search/multilingualquerysearch/scoring/StructuredQueryMethod;" (.ref u1) := Sta.start ev1 (Or.inr ⟨(own_k hw 6 rfl), (own_k hw 21 rfl)⟩)
  have hE1 : Exa s s.heap u1 "com/example/multilingual_query_search/multilingualquerysearch/scoring/StructuredQueryMethod" := Exa.start ev1 nx1
  have hF1 := own_fld ev1 ne1
  obtain ⟨nx5, nr5⟩ := and_e nr1'
  obtain ⟨ne5, nr5'⟩ := and_e nr5
  obtain ⟨u5, ev5⟩ := exa_v nx5
  have hS5 : Sta s s.heap "com/example/multilingual_query_search/multilingualquerysearch/scoring/StructuredQueryMethod" "WTF_DF" "Lcom/example/multilingual_query_search/multilingualquerysearch/scoring/StructuredQueryMethod;" (.ref u5) := Sta.start ev5 (Or.inr ⟨(own_k hw 6 rfl), (own_k hw 23 rfl)⟩)
  have hE5 : Exa s s.heap u5 "com/example/multilingual_query_search/multilingualquerysearch/scoring/StructuredQueryMethod" := Exa.start ev5 nx5
  have hF5 := own_fld ev5 ne5
  obtain ⟨nx3, nr3⟩ := and_e nr5'
  have ne3 := nr3
  obtain ⟨u3, ev3⟩ := exa_v nx3
  have hS3 : Sta s s.heap "com/example/multilingual_query_search/multilingualquerysearch/scoring/StructuredQueryMethod" "WDF" "Lcom/example/multilingual_query_search/multilingualquerysearch/scoring/StructuredQueryMethod;" (.ref u3) := Sta.start ev3 (Or.inr ⟨(own_k hw 6 rfl), (own_k hw 25 rfl)⟩)
  have hE3 : Exa s s.heap u3 "com/example/multilingual_query_search/multilingualquerysearch/scoring/StructuredQueryMethod" := Exa.start ev3 nx3
  have hF3 := own_fld ev3 ne3
  obtain ⟨n, o, h1, h2, h3, _, L, rfl, ⟨N, rfl⟩, hq⟩ := rm0 l s _ hw tables_1 i0 i1 u0 u1 u2 u3 u4 u5 s.heap s.heap.size (Nat.le_refl _) hS0 hS1 hS2 hS3 hS4 hS5 hE0 hE1 hE2 hE3 hE4 hE5 hF0 hF1 hF2 hF3 hF4 hF5 (Old.start s) p e ha hc hk s m _ below hf ((Spec.applies_iff_loose hf).mp happ).1 ⟨rfl, State.Warmed39.refl s, rfl⟩ trivial
  refine ⟨n, _, h1, h2, h3, hpost _ _ _ _ _ _ ⟨Cond.after_iff.mpr rfl, Cond.after_iff.mpr (eq_i res_at (Term.int_eval (1)) rfl), trivial⟩ ⟨hq.1, hq.2.1, (hq.2.2.sift fun y hy => Or.inr (N y hy)).mono (by decide) (by decide)⟩⟩
theorem main_1_1 : Claimed_1_1 := comes_1 fun _ _ _ _ _ _ h hF => ⟨h.1, hF⟩
theorem main_1_2 : Claimed_1_2 := comes_1 fun _ _ _ _ _ _ h hF => ⟨h.2.1, hF⟩
end Jvm.Pilot.@@N@@
namespace Jvm.Pilot.@@N@@
open Jvm Jvm.ClassFile Sem Op Lib Jvm.Free Jvm.Stand Jvm.Pilot.@@N@@.Jvm.D
/-! MADE BY PROGRAM (witnessworld.py) out of the Statement's table words and the real class files: 12 classes; the members and pool entries that the words name. The judged class is class 1, her method 2. -/
namespace start1
open Jvm.ClassFile
def u (s : String) : CpInfo := .utf8 (stringToUtf16 s)
/-- a pool by its gaps: so many unusable entries, then the entry; so many at the end -/
def gap : Nat → List CpInfo → List CpInfo
  | 0, r => r
  | n + 1, r => .unusable :: gap n r
def poolList (es : List (Nat × CpInfo)) (last : Nat) : List CpInfo := es.foldr (fun e r => gap e.1 (e.2 :: r)) (gap last [])
def pool (es : List (Nat × CpInfo)) (last : Nat) : Array CpInfo := ⟨poolList es last⟩
def fileOf (pool : Array CpInfo) (this : Nat) (attrs : Array Attribute := #[]) (ms : Array MethodInfo := #[]) (fl : Nat := 33) (sup : Nat := 0) (ifs : Array Nat := #[]) (fds : Array FieldInfo := #[]) : ClassFile where
  minorVersion := 0
  majorVersion := 65
  constantPool := pool
  accessFlags := fl
  thisClass := this
  superClass := sup
  interfaces := ifs
  fields := fds
  methods := ms
  attributes := attrs
def plain (name : String) (sup : Option ClassId) : Class where
  name := name
  kind := .ordinary
  loader := none
  accessFlags := 33
  super := sup
  interfaces := #[]
  cf := none
  fields := #[]
  methods := #[]
  instanceTypes := #[]
  staticTypes := #[]
  resolved := #[]
  callSites := []
  init := .initialized
  statics := none
  mirror := none

def pool0 : Array CpInfo := pool [(5, u "<init>"), (0, u "()V"), (1, .class_ 10), (1, u "java/lang/Object")] 113

def k0m0 : Method := { name := "<init>", desc := "()V", sig := { parameters := [], returnType := none }, accessFlags := 1, code := none }
/-- java/lang/Object -/
def k0 : Class := { plain "java/lang/Object" none with
  accessFlags := 33
  interfaces := #[]
  cf := some (fileOf pool0 8 #[] #[{ accessFlags := 1, nameIndex := 5, descriptorIndex := 6, attributes := #[] }] 33 0 #[] #[])
  fields := #[]
  methods := #[k0m0]
  instanceTypes := #[]
  staticTypes := #[]
  resolved := Array.replicate 124 none
  statics := none }

def pool1 : Array CpInfo := pool [(2, .class_ 4), (1, u "java/lang/Object"), (0, u "<init>"), (0, u "()V"), (0, .fieldref 8 9), (0, .class_ 10), (0, .nameAndType 11 12), (0, u "com/example/multilingual_query_search/multilingualquerysearch/scoring/StructuredQueryMethod"), (0, u "PIRKOLA"), (0, u "Lcom/example/multilingual_query_search/multilingualquerysearch/scoring/StructuredQueryMethod;"), (0, .fieldref 8 14), (0, .nameAndType 15 12), (0, u "KWOK"), (0, .fieldref 8 17), (0, .nameAndType 18 12), (0, u "MDF"), (0, .fieldref 8 20), (0, .nameAndType 21 12), (0, u "WDF"), (0, .fieldref 8 23), (0, .nameAndType 24 12), (0, u "WTF"), (0, .fieldref 8 26), (0, .nameAndType 27 12), (0, u "WTF_DF"), (0, .integer 2147483647), (0, .methodref 30 31), (0, .class_ 32), (0, .nameAndType 33 34), (0, u "com/example/multilingual_query_search/multilingualquerysearch/scoring/StructuredQueryMethodTermFrequencyWeightPinLaw"), (0, u "pick"), (0, u "(I)Lcom/example/multilingual_query_search/multilingualquerysearch/scoring/StructuredQueryMethod;"), (0, .double 4620693217682128896), (1, .methodref 8 38), (0, .nameAndType 39 40), (0, u "termFrequencyWeight"), (0, u "(D)D"), (3, u "law"), (0, u "(II)Z")] 2

def k1m0 : Method := { name := "<init>", desc := "()V", sig := { parameters := [], returnType := none }, accessFlags := 1, code := none }
def k1c1 : Code := { maxStack := 2, maxLocals := 1, code := method_2_code, exceptionTable := #[], attributes := #[] }
def k1m1 : Method := { name := "pick", desc := "(I)Lcom/example/multilingual_query_search/multilingualquerysearch/scoring/StructuredQueryMethod;", sig := { parameters := [.int], returnType := some (.object "com/example/multilingual_query_search/multilingualquerysearch/scoring/StructuredQueryMethod") }, accessFlags := 10, code := some k1c1 }
def k1c2 : Code := { maxStack := 4, maxLocals := 10, code := code, exceptionTable := #[], attributes := #[] }
def k1m2 : Method := { name := "law", desc := "(II)Z", sig := { parameters := [.int, .int], returnType := some .boolean }, accessFlags := 9, code := some k1c2 }
/-- com/example/multilingual_query_search/multilingualquerysearch/scoring/StructuredQueryMethodTermFrequencyWeightPinLaw -/
def k1 : Class := { plain "com/example/multilingual_query_search/multilingualquerysearch/scoring/StructuredQueryMethodTermFrequencyWeightPinLaw" (some 0) with
  accessFlags := 49
  interfaces := #[]
  cf := some (fileOf pool1 30 #[] #[{ accessFlags := 1, nameIndex := 5, descriptorIndex := 6, attributes := #[] }, { accessFlags := 10, nameIndex := 33, descriptorIndex := 34, attributes := #[] }, { accessFlags := 9, nameIndex := 44, descriptorIndex := 45, attributes := #[] }] 49 2 #[] #[])
  fields := #[]
  methods := #[k1m0, k1m1, k1m2]
  instanceTypes := #[]
  staticTypes := #[]
  resolved := Array.replicate 48 none
  statics := none }

def pool2 : Array CpInfo := pool [(1, .class_ 2), (0, u "java/lang/constant/Constable"), (0, .class_ 4), (0, u "java/lang/Object")] 6

/-- java/lang/constant/Constable -/
def k2 : Class := { plain "java/lang/constant/Constable" (some 0) with
  accessFlags := 1537
  interfaces := #[]
  cf := some (fileOf pool2 1 #[] #[] 1537 3 #[] #[])
  fields := #[]
  methods := #[]
  instanceTypes := #[]
  staticTypes := #[]
  resolved := Array.replicate 11 none
  statics := none }

def pool3 : Array CpInfo := pool [(1, .class_ 2), (0, u "java/lang/Comparable"), (0, .class_ 4), (0, u "java/lang/Object")] 7

/-- java/lang/Comparable -/
def k3 : Class := { plain "java/lang/Comparable" (some 0) with
  accessFlags := 1537
  interfaces := #[]
  cf := some (fileOf pool3 1 #[] #[] 1537 3 #[] #[])
  fields := #[]
  methods := #[]
  instanceTypes := #[]
  staticTypes := #[]
  resolved := Array.replicate 12 none
  statics := none }

def pool4 : Array CpInfo := pool [(1, .class_ 2), (0, u "java/io/Serializable"), (0, .class_ 4), (0, u "java/lang/Object")] 2

/-- java/io/Serializable -/
def k4 : Class := { plain "java/io/Serializable" (some 0) with
  accessFlags := 1537
  interfaces := #[]
  cf := some (fileOf pool4 1 #[] #[] 1537 3 #[] #[])
  fields := #[]
  methods := #[]
  instanceTypes := #[]
  staticTypes := #[]
  resolved := Array.replicate 7 none
  statics := none }

def pool5 : Array CpInfo := pool [(2, .class_ 4), (1, u "java/lang/Enum"), (0, u "name"), (0, u "Ljava/lang/String;"), (2, u "ordinal"), (0, u "I"), (1, .class_ 14), (1, u "java/lang/Object"), (4, u "hash"), (86, .class_ 108), (1, u "java/lang/Enum$EnumDesc"), (2, .class_ 112), (0, u "java/lang/constant/Constable"), (0, .class_ 114), (0, u "java/lang/Comparable"), (0, .class_ 116), (0, u "java/io/Serializable")] 87

/-- java/lang/Enum -/
def k5 : Class := { plain "java/lang/Enum" (some 0) with
  accessFlags := 1057
  interfaces := #[2, 3, 4]
  cf := some (fileOf pool5 2 #[.nestMembers #[106]] #[] 1057 12 #[111, 113, 115] #[{ accessFlags := 18, nameIndex := 5, descriptorIndex := 6, attributes := #[] }, { accessFlags := 18, nameIndex := 9, descriptorIndex := 10, attributes := #[] }, { accessFlags := 2, nameIndex := 19, descriptorIndex := 10, attributes := #[] }])
  fields := #[{ name := "name", type := (.object "java/lang/String"), accessFlags := 18, slot := 0, constantValue := 0 }, { name := "ordinal", type := .int, accessFlags := 18, slot := 1, constantValue := 0 }, { name := "hash", type := .int, accessFlags := 2, slot := 2, constantValue := 0 }]
  methods := #[]
  instanceTypes := #[(.object "java/lang/String"), .int, .int]
  staticTypes := #[]
  resolved := Array.replicate 204 none
  statics := none }

def pool6 : Array CpInfo := pool [(1, .class_ 2), (0, u "com/example/multilingual_query_search/multilingualquerysearch/scoring/StructuredQueryMethod"), (2, u "PIRKOLA"), (0, u "Lcom/example/multilingual_query_search/multilingualquerysearch/scoring/StructuredQueryMethod;"), (2, u "KWOK"), (2, u "MDF"), (2, u "WDF"), (2, u "WTF"), (2, u "WTF_DF"), (2, u "$VALUES"), (0, u "[Lcom/example/multilingual_query_search/multilingualquerysearch/scoring/StructuredQueryMethod;"), (6, .class_ 34), (1, u "java/lang/Enum"), (8, u "name"), (0, u "Ljava/lang/String;"), (0, .fieldref 1 46), (0, .nameAndType 47 48), (0, u "weighsTermFrequency"), (0, u "Z"), (2, u "documentFrequency"), (0, u "Lcom/example/multilingual_query_search/multilingualquerysearch/scoring/StructuredQueryMethod$DocumentFrequency;"), (21, .class_ 76), (1, u "com/example/multilingual_query_search/multilingualquerysearch/scoring/StructuredQueryMethod$DocumentFrequency"), (62, u "termFrequencyWeight"), (0, u "(D)D")] 8

def k6c0 : Code := { maxStack := 2, maxLocals := 3, code := prog_27_method_7_code, exceptionTable := #[], attributes := #[] }
def k6m0 : Method := { name := "termFrequencyWeight", desc := "(D)D", sig := { parameters := [.double], returnType := some .double }, accessFlags := 0, code := some k6c0 }
/-- com/example/multilingual_query_search/multilingualquerysearch/scoring/StructuredQueryMethod -/
def k6 : Class := { plain "com/example/multilingual_query_search/multilingualquerysearch/scoring/StructuredQueryMethod" (some 5) with
  accessFlags := 16433
  interfaces := #[]
  cf := some (fileOf pool6 1 #[.nestMembers #[74]] #[{ accessFlags := 0, nameIndex := 139, descriptorIndex := 140, attributes := #[] }] 16433 32 #[] #[{ accessFlags := 16409, nameIndex := 5, descriptorIndex := 6, attributes := #[] }, { accessFlags := 16409, nameIndex := 9, descriptorIndex := 6, attributes := #[] }, { accessFlags := 16409, nameIndex := 12, descriptorIndex := 6, attributes := #[] }, { accessFlags := 16409, nameIndex := 15, descriptorIndex := 6, attributes := #[] }, { accessFlags := 16409, nameIndex := 18, descriptorIndex := 6, attributes := #[] }, { accessFlags := 16409, nameIndex := 21, descriptorIndex := 6, attributes := #[] }, { accessFlags := 18, nameIndex := 43, descriptorIndex := 44, attributes := #[] }, { accessFlags := 18, nameIndex := 47, descriptorIndex := 48, attributes := #[] }, { accessFlags := 18, nameIndex := 51, descriptorIndex := 52, attributes := #[] }, { accessFlags := 4122, nameIndex := 24, descriptorIndex := 25, attributes := #[] }])
  fields := #[{ name := "PIRKOLA", type := (.object "com/example/multilingual_query_search/multilingualquerysearch/scoring/StructuredQueryMethod"), accessFlags := 16409, slot := 0, constantValue := 0 }, { name := "KWOK", type := (.object "com/example/multilingual_query_search/multilingualquerysearch/scoring/StructuredQueryMethod"), accessFlags := 16409, slot := 1, constantValue := 0 }, { name := "MDF", type := (.object "com/example/multilingual_query_search/multilingualquerysearch/scoring/StructuredQueryMethod"), accessFlags := 16409, slot := 2, constantValue := 0 }, { name := "WDF", type := (.object "com/example/multilingual_query_search/multilingualquerysearch/scoring/StructuredQueryMethod"), accessFlags := 16409, slot := 3, constantValue := 0 }, { name := "WTF", type := (.object "com/example/multilingual_query_search/multilingualquerysearch/scoring/StructuredQueryMethod"), accessFlags := 16409, slot := 4, constantValue := 0 }, { name := "WTF_DF", type := (.object "com/example/multilingual_query_search/multilingualquerysearch/scoring/StructuredQueryMethod"), accessFlags := 16409, slot := 5, constantValue := 0 }, { name := "name", type := (.object "java/lang/String"), accessFlags := 18, slot := 3, constantValue := 0 }, { name := "weighsTermFrequency", type := .boolean, accessFlags := 18, slot := 4, constantValue := 0 }, { name := "documentFrequency", type := (.object "com/example/multilingual_query_search/multilingualquerysearch/scoring/StructuredQueryMethod$DocumentFrequency"), accessFlags := 18, slot := 5, constantValue := 0 }, { name := "$VALUES", type := (.array (.object "com/example/multilingual_query_search/multilingualquerysearch/scoring/StructuredQueryMethod")), accessFlags := 4122, slot := 6, constantValue := 0 }]
  methods := #[k6m0]
  instanceTypes := #[(.object "java/lang/String"), .int, .int, (.object "java/lang/String"), .boolean, (.object "com/example/multilingual_query_search/multilingualquerysearch/scoring/StructuredQueryMethod$DocumentFrequency")]
  staticTypes := #[(.object "com/example/multilingual_query_search/multilingualquerysearch/scoring/StructuredQueryMethod"), (.object "com/example/multilingual_query_search/multilingualquerysearch/scoring/StructuredQueryMethod"), (.object "com/example/multilingual_query_search/multilingualquerysearch/scoring/StructuredQueryMethod"), (.object "com/example/multilingual_query_search/multilingualquerysearch/scoring/StructuredQueryMethod"), (.object "com/example/multilingual_query_search/multilingualquerysearch/scoring/StructuredQueryMethod"), (.object "com/example/multilingual_query_search/multilingualquerysearch/scoring/StructuredQueryMethod"), (.array (.object "com/example/multilingual_query_search/multilingualquerysearch/scoring/StructuredQueryMethod"))]
  resolved := Array.replicate 149 none
  statics := some 0 }

def pool7 : Array CpInfo := pool [(1, u "java/lang/Cloneable"), (0, .class_ 1), (0, u "java/lang/Object"), (0, .class_ 3)] 3

/-- java/lang/Cloneable -/
def k7 : Class := { plain "java/lang/Cloneable" (some 0) with
  accessFlags := 1537
  interfaces := #[]
  cf := some (fileOf pool7 2 #[] #[] 1537 4 #[] #[])
  fields := #[]
  methods := #[]
  instanceTypes := #[]
  staticTypes := #[]
  resolved := Array.replicate 8 none
  statics := none }

/-- the primitive byte -/
def k8 : Class := { plain "byte" none with kind := .primitive 'B', accessFlags := 0x411 }
/-- [B -/
def k9 : Class := { plain "[B" (some 0) with kind := .array 8 .byte, interfaces := #[7, 4], accessFlags := 1041 }

/-- the primitive int -/
def k10 : Class := { plain "int" none with kind := .primitive 'I', accessFlags := 0x411 }
/-- [I -/
def k11 : Class := { plain "[I" (some 0) with kind := .array 10 .int, interfaces := #[7, 4], accessFlags := 1041 }

def heap : Heap := #[{ cls := 6, slots := #[.ref 1, .ref 2, .ref 3, .ref 4, .ref 5, .ref 6, .null], vm := .statics 6 },
  { cls := 6, slots := #[.null, .int 0, .int 0, .null, .int 0, .null], vm := .none },
  { cls := 6, slots := #[.null, .int 0, .int 0, .null, .int 0, .null], vm := .none },
  { cls := 6, slots := #[.null, .int 0, .int 0, .null, .int 0, .null], vm := .none },
  { cls := 6, slots := #[.null, .int 0, .int 0, .null, .int 0, .null], vm := .none },
  { cls := 6, slots := #[.null, .int 0, .int 0, .null, .int 1, .null], vm := .none },
  { cls := 6, slots := #[.null, .int 0, .int 0, .null, .int 1, .null], vm := .none }]
def classes : Array Class := #[k0, k1, k2, k3, k4, k5, k6, k7, k8, k9, k10, k11]
def interned : List (Array UInt16 × Addr) := []
def slotsUsed : Nat := 43
def theMethod : MethodId := ⟨1, 2⟩
def args0 : Array Value := #[.int 5, .int 3]
def aboutOver (below : List Frame) : State where
  vm := { classes := classes, interned := interned.toArray }
  heap := heap
  slotsUsed := slotsUsed
  threads := #[{ frames := .invoking theMethod args0 :: below }]
def below0 : List Frame := [.native { method := ⟨0, 0⟩, args := #[] }]
def about1 : State := aboutOver below0
def p0 : Program := .bare "" "" ""
def e0 : Env := launch0.env 0 0 0
theorem w_frames : about1.frames = Frame.invoking theMethod args0 :: below0 := rfl
set_option maxRecDepth 65536 in
theorem w_args : argsFit about1.vm theMethod args0 = true := by decide +kernel
set_option maxRecDepth 65536 in
theorem w_heap : heapFits about1 = true := by decide +kernel
set_option maxRecDepth 65536 in
theorem w_runnable : about1.curStatus? = some .runnable := by decide +kernel
set_option maxRecDepth 65536 in
theorem w_alone : about1.alone = true := by decide +kernel
set_option maxRecDepth 65536 in
theorem w_named : about1.methodNamed? x = some theMethod := by decide +kernel
set_option maxRecDepth 65536 in
theorem w_hears : about1.hears theMethod below0 = true := by decide +kernel
set_option maxRecDepth 65536 in
theorem w_ripe : about1.ripe theMethod args0 below0 = true := by decide +kernel
theorem w_running : about1.status = .running := rfl
set_option maxRecDepth 65536 in
theorem w_room : about1.hasRoom e0.platform room_1 = true :=
  launch0.hasRoom_least _ room_1 (by decide +kernel) (by decide +kernel) (by decide +kernel) (by decide +kernel) (by decide +kernel) (by decide +kernel)
theorem allAtoms_all (ts : List Jvm.Cond) (a : Array Jvm.Value) (st : Jvm.State) : (allAtoms ts).before a st = ts.all (fun c => c.before a st) := by
  induction ts with
  | nil => rfl
  | cons c t ih =>
    show (Jvm.Cond.and c (allAtoms t)).before a st = _
    rw [Jvm.Cond.before_and, ih, List.all_cons]
def words1 : List Jvm.Cond := Jvm.Cond.code x code maxLocals ret :: tables_1
/-- a 'code' word, met by the world's own term for the bytes: nothing is compared byte by byte -/
theorem code_word {y : MethodName} {bytes : ByteArray} {mx : Nat} {rt : Option FieldType} {a : Array Value} {s : State} {m : MethodId} {meth : Method} {c : Code} (h1 : s.methodNamed? y = some m) (h2 : s.vm.method? m = some meth) (h3 : meth.code = some c) (h4 : c.code = bytes)
    (h5 : (c.maxLocals == mx && c.exceptionTable.isEmpty && decide (c.maxStack ≤ mostOperands) && decide (meth.sig.returnType = rt) && !meth.locks && decide (parseMethodDescriptor y.desc = some meth.sig)) = true) : (Jvm.Cond.code y bytes mx rt).before a s = true := by
  simp only [Bool.and_eq_true, beq_iff_eq, Bool.not_eq_true', decide_eq_true_eq] at h5
  obtain ⟨⟨⟨⟨⟨g1, g2⟩, g3⟩, g4⟩, g5⟩, g6⟩ := h5
  simp [Cond.before, Cond.holds, Cond.value, h1, h2, h3, h4, g1, g2, g3, g4, g5, g6]
def isCode : Jvm.Cond → Bool
  | .code _ _ _ _ => true
  | _ => false
theorem all_split {L : List Jvm.Cond} {P : Jvm.Cond → Bool} (h1 : L.all (fun c => isCode c || P c) = true) (h2 : ∀ c ∈ L.filter isCode, P c = true) : L.all P = true := by
  refine List.all_eq_true.mpr fun c hc => ?_
  have h := List.all_eq_true.mp h1 c hc
  rcases Bool.eq_false_or_eq_true (isCode c) with hi | hi
  · exact h2 c (List.mem_filter.mpr ⟨hc, hi⟩)
  · simpa [hi] using h
set_option maxRecDepth 65536 in
theorem w_c0 : (Jvm.Cond.code x code maxLocals ret).before args0 about1 = true := code_word (m := ⟨1, 2⟩) (meth := k1m2) (c := k1c2) (by decide +kernel) rfl rfl rfl (by decide +kernel)
set_option maxRecDepth 65536 in
theorem w_c1 : (Jvm.Cond.code ({ cls := "com/example/multilingual_query_search/multilingualquerysearch/scoring/StructuredQueryMethodTermFrequencyWeightPinLaw", name := "pick", desc := "(I)Lcom/example/multilingual_query_search/multilingualquerysearch/scoring/StructuredQueryMethod;" } : Jvm.MethodName) method_2_code (1 : Nat) (Option.some (Jvm.ClassFile.FieldType.object "com/example/multilingual_query_search/multilingualquerysearch/scoring/StructuredQueryMethod"))).before args0 about1 = true := code_word (m := ⟨1, 1⟩) (meth := k1m1) (c := k1c1) (by decide +kernel) rfl rfl rfl (by decide +kernel)
set_option maxRecDepth 65536 in
theorem w_c2 : (Jvm.Cond.code ({ cls := "com/example/multilingual_query_search/multilingualquerysearch/scoring/StructuredQueryMethod", name := "termFrequencyWeight", desc := "(D)D" } : Jvm.MethodName) prog_27_method_7_code (3 : Nat) (Option.some Jvm.ClassFile.FieldType.double)).before args0 about1 = true := code_word (m := ⟨6, 0⟩) (meth := k6m0) (c := k6c0) (by decide +kernel) rfl rfl rfl (by decide +kernel)
def codes1 : List Jvm.Cond := [Jvm.Cond.code x code maxLocals ret, Jvm.Cond.code ({ cls := "com/example/multilingual_query_search/multilingualquerysearch/scoring/StructuredQueryMethodTermFrequencyWeightPinLaw", name := "pick", desc := "(I)Lcom/example/multilingual_query_search/multilingualquerysearch/scoring/StructuredQueryMethod;" } : Jvm.MethodName) method_2_code (1 : Nat) (Option.some (Jvm.ClassFile.FieldType.object "com/example/multilingual_query_search/multilingualquerysearch/scoring/StructuredQueryMethod")), Jvm.Cond.code ({ cls := "com/example/multilingual_query_search/multilingualquerysearch/scoring/StructuredQueryMethod", name := "termFrequencyWeight", desc := "(D)D" } : Jvm.MethodName) prog_27_method_7_code (3 : Nat) (Option.some Jvm.ClassFile.FieldType.double)]
set_option maxRecDepth 65536 in
theorem codes_eq : words1.filter isCode = codes1 := rfl
theorem w_codes : ∀ c ∈ words1.filter isCode, c.before args0 about1 = true := by
  rw [codes_eq]
  intro c hc
  simp only [codes1, List.mem_cons, List.not_mem_nil, or_false] at hc
  rcases hc with rfl | rfl | rfl
  · exact w_c0
  · exact w_c1
  · exact w_c2
set_option maxRecDepth 65536 in
theorem w_t1 : (words1.take 24).all (fun c => isCode c || c.before args0 about1) = true := by decide +kernel
set_option maxRecDepth 65536 in
theorem w_t2 : (words1.drop 24).all (fun c => isCode c || c.before args0 about1) = true := by decide +kernel
theorem w_tables : (allAtoms (Jvm.Cond.code x code maxLocals ret :: tables_1)).before args0 about1 = true := by
  rw [allAtoms_all]
  show words1.all (fun c => c.before args0 about1) = true
  refine all_split ?_ w_codes
  rw [← List.take_append_drop 24 words1, List.all_append, w_t1, w_t2]
  rfl
set_option maxRecDepth 65536 in
theorem w_case : (Jvm.Cond.and given_1 narrow_1).before args0 about1 = true := by decide +kernel
theorem w_applies : (headSpec (Jvm.Cond.code x code maxLocals ret :: tables_1) room_1).applies x e0.platform about1 = true :=
  (Spec.applies_iff w_frames).mpr ⟨w_running, w_runnable, w_alone, w_named, w_hears, w_ripe, w_room, w_tables⟩
theorem atStart : AtStart classFile x code maxLocals ret World_1 tables_1 room_1 Calls_1 rest_1 Pre_1 launch0 p0 e0 about1 theMethod args0 below0 :=
  ⟨lists_1, trivial, launch0.admits_env _ _ _, launch0.least_env, fairChoices_fair.cas, fairChoices_fair.clock, w_frames, w_args, w_heap, w_applies, trivial, trivial, w_case⟩
end start1
theorem witness_1 : WitnessClaimed_1 := ⟨start1.p0, start1.e0, start1.about1, start1.theMethod, start1.args0, start1.below0, start1.atStart⟩
end Jvm.Pilot.@@N@@
