import JvmDerived
import JvmDerived.Pilot.@@N@@Statement
import JvmDerived.Pilot.@@N@@Code
set_option linter.unusedVariables false
set_option linter.unusedSimpArgs false
namespace Jvm.Pilot.@@N@@
open Jvm Jvm.ClassFile Sem Op Lib Jvm.Free Jvm.Stand Jvm.LawKit Jvm.RoadKit Bundle Jvm.Pilot.@@N@@.Jvm.D
def own_pickA (i : Int32) (v0 v1 v2 v3 v4 v5 : Addr) : Addr := if i = 0 then v0 else if i = 1 then v1 else if i = 2 then v2 else if i = 3 then v3 else if i = 4 then v4 else v5
theorem dp_0 : decode method_3_code 0 = .ok (.iload_n 0, 1) := by decide +kernel
theorem dp_1 : decode method_3_code 1 = .ok (.ifCond .ne 7, 3) := by decide +kernel
theorem dp_4 : decode method_3_code 4 = .ok (.getstatic 20, 3) := by decide +kernel
theorem dp_7 : decode method_3_code 7 = .ok (.areturn, 1) := by decide +kernel
theorem dp_8 : decode method_3_code 8 = .ok (.iload_n 0, 1) := by decide +kernel
theorem dp_9 : decode method_3_code 9 = .ok (.iconst 1, 1) := by decide +kernel
theorem dp_10 : decode method_3_code 10 = .ok (.if_icmp .ne 7, 3) := by decide +kernel
theorem dp_13 : decode method_3_code 13 = .ok (.getstatic 24, 3) := by decide +kernel
theorem dp_16 : decode method_3_code 16 = .ok (.areturn, 1) := by decide +kernel
theorem dp_17 : decode method_3_code 17 = .ok (.iload_n 0, 1) := by decide +kernel
theorem dp_18 : decode method_3_code 18 = .ok (.iconst 2, 1) := by decide +kernel
theorem dp_19 : decode method_3_code 19 = .ok (.if_icmp .ne 7, 3) := by decide +kernel
theorem dp_22 : decode method_3_code 22 = .ok (.getstatic 27, 3) := by decide +kernel
theorem dp_25 : decode method_3_code 25 = .ok (.areturn, 1) := by decide +kernel
theorem dp_26 : decode method_3_code 26 = .ok (.iload_n 0, 1) := by decide +kernel
theorem dp_27 : decode method_3_code 27 = .ok (.iconst 3, 1) := by decide +kernel
theorem dp_28 : decode method_3_code 28 = .ok (.if_icmp .ne 7, 3) := by decide +kernel
theorem dp_31 : decode method_3_code 31 = .ok (.getstatic 30, 3) := by decide +kernel
theorem dp_34 : decode method_3_code 34 = .ok (.areturn, 1) := by decide +kernel
theorem dp_35 : decode method_3_code 35 = .ok (.iload_n 0, 1) := by decide +kernel
theorem dp_36 : decode method_3_code 36 = .ok (.iconst 4, 1) := by decide +kernel
theorem dp_37 : decode method_3_code 37 = .ok (.if_icmp .ne 7, 3) := by decide +kernel
theorem dp_40 : decode method_3_code 40 = .ok (.getstatic 33, 3) := by decide +kernel
theorem dp_43 : decode method_3_code 43 = .ok (.areturn, 1) := by decide +kernel
theorem dp_44 : decode method_3_code 44 = .ok (.getstatic 36, 3) := by decide +kernel
theorem dp_47 : decode method_3_code 47 = .ok (.areturn, 1) := by decide +kernel
theorem dr_0 : decode prog_15_method_12_code 0 = .ok (.aload_n 0, 1) := by decide +kernel
theorem dr_1 : decode prog_15_method_12_code 1 = .ok (.getstatic 3, 3) := by decide +kernel
theorem dr_4 : decode prog_15_method_12_code 4 = .ok (.if_acmp .ne 7, 3) := by decide +kernel
theorem dr_7 : decode prog_15_method_12_code 7 = .ok (.iconst 1, 1) := by decide +kernel
theorem dr_8 : decode prog_15_method_12_code 8 = .ok (.goto 4, 3) := by decide +kernel
theorem dr_11 : decode prog_15_method_12_code 11 = .ok (.iconst 0, 1) := by decide +kernel
theorem dr_12 : decode prog_15_method_12_code 12 = .ok (.ireturn, 1) := by decide +kernel
def own_Qpick (Z : State) (i : Int32) (v0 v1 v2 v3 v4 v5 : Addr) (h0 : Heap) (n0 : Nat) (v : Option Value) (h : Heap) (L : List Loc) : Prop := v = some (.ref (own_pickA i v0 v1 v2 v3 v4 v5)) ∧ Fr n0 L ∧ h = h0
theorem own_pn0 : plainName "com/example/inweave/inweave/description/DescriptionNamespaceRequiresNamesPinLaw" = true := by first | (simp [plainName, overriddenIn]; done) | decide +kernel
theorem own_pn1 : plainName "com/example/inweave/inweave/description/DescriptionNamespace" = true := by first | (simp [plainName, overriddenIn]; done) | decide +kernel
theorem own_pd0 : parseMethodDescriptor "(I)Lcom/example/inweave/inweave/description/DescriptionNamespace;" = some ⟨[.int], some (.object "com/example/inweave/inweave/description/DescriptionNamespace")⟩ := by decide +kernel
theorem own_pd1 : parseMethodDescriptor "()Z" = some ⟨[], some .boolean⟩ := by decide +kernel
theorem own_pick_ef (m : MethodId) (x0 : Int32) : entryFrame m #[(.int x0)] 1 = mkF m 0 #[.val (.int x0)] [] := by first | (simp [entryFrame, mkF, argsToLocals, Value.category]; done) | rfl
set_option maxRecDepth 65536 in
set_option maxHeartbeats 40000000 in
theorem own_pick (l : Launch) (Z : State) (a0 : Array Value) (hw : ∀ d ∈ tables_1, d.before a0 Z = true) (ws : List Jvm.Cond) (i : Int32) (v0 v1 v2 v3 v4 v5 : Addr) (h0 : Heap) (n0 : Nat) (Z0 : n0 ≤ h0.size) (S0 : Sta Z h0 "com/example/inweave/inweave/description/DescriptionNamespace" "V1_0_0" "Lcom/example/inweave/inweave/description/DescriptionNamespace;" (.ref v0)) (S1 : Sta Z h0 "com/example/inweave/inweave/description/DescriptionNamespace" "V1_1_0" "Lcom/example/inweave/inweave/description/DescriptionNamespace;" (.ref v1)) (S2 : Sta Z h0 "com/example/inweave/inweave/description/DescriptionNamespace" "V1_2_0" "Lcom/example/inweave/inweave/description/DescriptionNamespace;" (.ref v2)) (S3 : Sta Z h0 "com/example/inweave/inweave/description/DescriptionNamespace" "V1_3_0" "Lcom/example/inweave/inweave/description/DescriptionNamespace;" (.ref v3)) (S4 : Sta Z h0 "com/example/inweave/inweave/description/DescriptionNamespace" "V1_4_0" "Lcom/example/inweave/inweave/description/DescriptionNamespace;" (.ref v4)) (S5 : Sta Z h0 "com/example/inweave/inweave/description/DescriptionNamespace" "V1_5_0" "Lcom/example/inweave/inweave/description/DescriptionNamespace;" (.ref v5)) :
    MetFree l (⟨"com/example/inweave/inweave/description/DescriptionNamespaceRequiresNamesPinLaw", "pick", "(I)Lcom/example/inweave/inweave/description/DescriptionNamespace;"⟩ : MethodName) (head1 (Jvm.Cond.code (⟨"com/example/inweave/inweave/description/DescriptionNamespaceRequiresNamesPinLaw", "pick", "(I)Lcom/example/inweave/inweave/description/DescriptionNamespace;"⟩ : MethodName) method_3_code 1 (some (.object "com/example/inweave/inweave/description/DescriptionNamespace")) :: ws) ({ frames := 0, cells := 0, slots := 0, locals := 0 } : Room)) (fun a U => a = #[(.int i)] ∧ Z.Warmed39 U.vm ∧ U.heap = h0) (fun _ _ _ _ _ => True) (fun _ U o U' => ∃ v L, o = .returned v ∧ own_Qpick Z i v0 v1 v2 v3 v4 v5 h0 n0 v U'.heap L ∧ FrameEnd U o U' L ({ frames := 0, cells := 0, slots := 0, locals := 0 } : Room).cells ({ frames := 0, cells := 0, slots := 0, locals := 0 } : Room).slots) := by
  refine MetFree.of_bodySF (plainFor_of_name own_pn0) hisR ?_
  intro p e s m args below meth c s₁ Bd hml0 hP hK
  obtain ⟨rfl, hZ, hh⟩ := hP
  have hx := Bd.exec
  have hby := Bd.bytes
  have hml : c.maxLocals = 1 := hml0
  have hown : s.vm.findClass "com/example/inweave/inweave/description/DescriptionNamespaceRequiresNamesPinLaw" = some m.cls := findClass_of_methodNamed Bd.named
  have hnm := (name_of_methodNamed Bd.named Bd.method).1
  have X0 : Stand p l e ({ frames := 0, cells := 0, slots := 0, locals := 0 } : Room) s m #[(.int i)] below meth c s₁ [] 0 0 := Stand.of_body Bd
  have e0 : s₁.heap = h0 := by rw [← hh, Bd.state]; rfl
  have N0 := Fr.nil n0
  have A0 : ∀ t, Steps p.tables e below (s₁.setTop (mkF m 0 #[.val (.int i)] [])) t → Steps p.tables e below (s₁.setTop (entryFrame m #[(.int i)] 1)) t := fun t k => castTop (own_pick_ef m i) k
  have A1 : ∀ t, Steps p.tables e below (s₁.setTop (mkF m 1 #[.val (.int i)] [(.int i)])) t → Steps p.tables e below (s₁.setTop (entryFrame m #[(.int i)] 1)) t := by
    intro t k
    refine A0 _ ?_
    refine XS.iloadN X0.here hx rfl (hb hby dp_0) rfl ?_
    show Steps p.tables e below (s₁.setTop (mkF m 1 #[.val (.int i)] [(.int i)])) _
    exact k
  by_cases hc2 : i = (0 : Int32)
  · have A3 : ∀ t, Steps p.tables e below (s₁.setTop (mkF m 4 #[.val (.int i)] [])) t → Steps p.tables e below (s₁.setTop (entryFrame m #[(.int i)] 1)) t := by
      intro t k
      refine A1 _ ?_
      refine XS.ifNo X0.here hx rfl (hb hby dp_1) rfl ((if0 _ _).trans (teq hc2).2) ?_
      show Steps p.tables e below (s₁.setTop (mkF m 4 #[.val (.int i)] [])) _
      exact k
    obtain ⟨T4, X4, e4, st4⟩ := getS2 X0 hx hZ hown (host := "") (Or.inl (hw _ (List.mem_of_getElem? (i := 5) rfl))) Via.refl e0 S0 (g := (mkF m 4 #[.val (.int i)] [])) rfl (hb hby dp_4)
    have A5 : ∀ t, Steps p.tables e below (T4.setTop (mkF m 7 #[.val (.int i)] [(.ref v0)])) t → Steps p.tables e below (s₁.setTop (entryFrame m #[(.int i)] 1)) t := by
      intro t k
      refine A3 _ ?_
      refine st4 _ ?_
      show Steps p.tables e below (T4.setTop (mkF m 7 #[.val (.int i)] [(.ref v0)])) _
      exact k
    obtain ⟨fs, hr, hrun, hended, hW, hsame⟩ := X4.leave (v := some (.ref v0)) (fun h => by rw [Bd.returns] at h; cases h)
    refine ⟨_, _, A5 _ ?_, hrun, hended, _, _, rfl, ?_, ⟨_, rfl⟩, hW, hsame.mono (by decide) (by decide)⟩
    · exact retOut X4 hx Bd.returns rfl (Or.inr (Or.inr (Or.inr (Or.inr ⟨rfl, rfl, rfl⟩)))) (hb hby dp_7) hr
    · show own_Qpick Z i v0 v1 v2 v3 v4 v5 h0 n0 _ T4.heap _
      rw [e4]
      exact ⟨by simp [own_pickA, hc2], N0, rfl⟩
  · have A6 : ∀ t, Steps p.tables e below (s₁.setTop (mkF m 10 #[.val (.int i)] [(.int (1 : Int32)), (.int i)])) t → Steps p.tables e below (s₁.setTop (entryFrame m #[(.int i)] 1)) t := by
      intro t k
      refine A1 _ ?_
      refine XS.ifYes X0.here hx rfl (pc0 := 1) (pc' := 8) rfl (hb hby dp_1) rfl ((if0 _ _).trans (feq hc2).2) (by decide) (by decide) ?_
      show Steps p.tables e below (s₁.setTop (mkF m 8 #[.val (.int i)] [])) _
      refine XS.iloadN X0.here hx rfl (hb hby dp_8) rfl ?_
      show Steps p.tables e below (s₁.setTop (mkF m 9 #[.val (.int i)] [(.int i)])) _
      refine XS.iconst X0.here hx rfl (hb hby dp_9) ?_
      show Steps p.tables e below (s₁.setTop (mkF m 10 #[.val (.int i)] [(.int (1 : Int32)), (.int i)])) _
      exact k
    by_cases hc7 : i = (1 : Int32)
    · have A8 : ∀ t, Steps p.tables e below (s₁.setTop (mkF m 13 #[.val (.int i)] [])) t → Steps p.tables e below (s₁.setTop (entryFrame m #[(.int i)] 1)) t := by
        intro t k
        refine A6 _ ?_
        refine XS.icmpNo X0.here hx rfl (hb hby dp_10) rfl (teq hc7).2 ?_
        show Steps p.tables e below (s₁.setTop (mkF m 13 #[.val (.int i)] [])) _
        exact k
      obtain ⟨T9, X9, e9, st9⟩ := getS2 X0 hx hZ hown (host := "") (Or.inl (hw _ (List.mem_of_getElem? (i := 18) rfl))) Via.refl e0 S1 (g := (mkF m 13 #[.val (.int i)] [])) rfl (hb hby dp_13)
      have A10 : ∀ t, Steps p.tables e below (T9.setTop (mkF m 16 #[.val (.int i)] [(.ref v1)])) t → Steps p.tables e below (s₁.setTop (entryFrame m #[(.int i)] 1)) t := by
        intro t k
        refine A8 _ ?_
        refine st9 _ ?_
        show Steps p.tables e below (T9.setTop (mkF m 16 #[.val (.int i)] [(.ref v1)])) _
        exact k
      obtain ⟨fs, hr, hrun, hended, hW, hsame⟩ := X9.leave (v := some (.ref v1)) (fun h => by rw [Bd.returns] at h; cases h)
      refine ⟨_, _, A10 _ ?_, hrun, hended, _, _, rfl, ?_, ⟨_, rfl⟩, hW, hsame.mono (by decide) (by decide)⟩
      · exact retOut X9 hx Bd.returns rfl (Or.inr (Or.inr (Or.inr (Or.inr ⟨rfl, rfl, rfl⟩)))) (hb hby dp_16) hr
      · show own_Qpick Z i v0 v1 v2 v3 v4 v5 h0 n0 _ T9.heap _
        rw [e9]
        exact ⟨by simp [own_pickA, hc2, hc7], N0, rfl⟩
    · have A11 : ∀ t, Steps p.tables e below (s₁.setTop (mkF m 19 #[.val (.int i)] [(.int (2 : Int32)), (.int i)])) t → Steps p.tables e below (s₁.setTop (entryFrame m #[(.int i)] 1)) t := by
        intro t k
        refine A6 _ ?_
        refine XS.icmpYes X0.here hx rfl (pc0 := 10) (pc' := 17) rfl (hb hby dp_10) rfl (feq hc7).2 (by decide) (by decide) ?_
        show Steps p.tables e below (s₁.setTop (mkF m 17 #[.val (.int i)] [])) _
        refine XS.iloadN X0.here hx rfl (hb hby dp_17) rfl ?_
        show Steps p.tables e below (s₁.setTop (mkF m 18 #[.val (.int i)] [(.int i)])) _
        refine XS.iconst X0.here hx rfl (hb hby dp_18) ?_
        show Steps p.tables e below (s₁.setTop (mkF m 19 #[.val (.int i)] [(.int (2 : Int32)), (.int i)])) _
        exact k
      by_cases hc12 : i = (2 : Int32)
      · have A13 : ∀ t, Steps p.tables e below (s₁.setTop (mkF m 22 #[.val (.int i)] [])) t → Steps p.tables e below (s₁.setTop (entryFrame m #[(.int i)] 1)) t := by
          intro t k
          refine A11 _ ?_
          refine XS.icmpNo X0.here hx rfl (hb hby dp_19) rfl (teq hc12).2 ?_
          show Steps p.tables e below (s₁.setTop (mkF m 22 #[.val (.int i)] [])) _
          exact k
        obtain ⟨T14, X14, e14, st14⟩ := getS2 X0 hx hZ hown (host := "") (Or.inl (hw _ (List.mem_of_getElem? (i := 16) rfl))) Via.refl e0 S2 (g := (mkF m 22 #[.val (.int i)] [])) rfl (hb hby dp_22)
        have A15 : ∀ t, Steps p.tables e below (T14.setTop (mkF m 25 #[.val (.int i)] [(.ref v2)])) t → Steps p.tables e below (s₁.setTop (entryFrame m #[(.int i)] 1)) t := by
          intro t k
          refine A13 _ ?_
          refine st14 _ ?_
          show Steps p.tables e below (T14.setTop (mkF m 25 #[.val (.int i)] [(.ref v2)])) _
          exact k
        obtain ⟨fs, hr, hrun, hended, hW, hsame⟩ := X14.leave (v := some (.ref v2)) (fun h => by rw [Bd.returns] at h; cases h)
        refine ⟨_, _, A15 _ ?_, hrun, hended, _, _, rfl, ?_, ⟨_, rfl⟩, hW, hsame.mono (by decide) (by decide)⟩
        · exact retOut X14 hx Bd.returns rfl (Or.inr (Or.inr (Or.inr (Or.inr ⟨rfl, rfl, rfl⟩)))) (hb hby dp_25) hr
        · show own_Qpick Z i v0 v1 v2 v3 v4 v5 h0 n0 _ T14.heap _
          rw [e14]
          exact ⟨by simp [own_pickA, hc2, hc7, hc12], N0, rfl⟩
      · have A16 : ∀ t, Steps p.tables e below (s₁.setTop (mkF m 28 #[.val (.int i)] [(.int (3 : Int32)), (.int i)])) t → Steps p.tables e below (s₁.setTop (entryFrame m #[(.int i)] 1)) t := by
          intro t k
          refine A11 _ ?_
          refine XS.icmpYes X0.here hx rfl (pc0 := 19) (pc' := 26) rfl (hb hby dp_19) rfl (feq hc12).2 (by decide) (by decide) ?_
          show Steps p.tables e below (s₁.setTop (mkF m 26 #[.val (.int i)] [])) _
          refine XS.iloadN X0.here hx rfl (hb hby dp_26) rfl ?_
          show Steps p.tables e below (s₁.setTop (mkF m 27 #[.val (.int i)] [(.int i)])) _
          refine XS.iconst X0.here hx rfl (hb hby dp_27) ?_
          show Steps p.tables e below (s₁.setTop (mkF m 28 #[.val (.int i)] [(.int (3 : Int32)), (.int i)])) _
          exact k
        by_cases hc17 : i = (3 : Int32)
        · have A18 : ∀ t, Steps p.tables e below (s₁.setTop (mkF m 31 #[.val (.int i)] [])) t → Steps p.tables e below (s₁.setTop (entryFrame m #[(.int i)] 1)) t := by
            intro t k
            refine A16 _ ?_
            refine XS.icmpNo X0.here hx rfl (hb hby dp_28) rfl (teq hc17).2 ?_
            show Steps p.tables e below (s₁.setTop (mkF m 31 #[.val (.int i)] [])) _
            exact k
          obtain ⟨T19, X19, e19, st19⟩ := getS2 X0 hx hZ hown (host := "") (Or.inl (hw _ (List.mem_of_getElem? (i := 14) rfl))) Via.refl e0 S3 (g := (mkF m 31 #[.val (.int i)] [])) rfl (hb hby dp_31)
          have A20 : ∀ t, Steps p.tables e below (T19.setTop (mkF m 34 #[.val (.int i)] [(.ref v3)])) t → Steps p.tables e below (s₁.setTop (entryFrame m #[(.int i)] 1)) t := by
            intro t k
            refine A18 _ ?_
            refine st19 _ ?_
            show Steps p.tables e below (T19.setTop (mkF m 34 #[.val (.int i)] [(.ref v3)])) _
            exact k
          obtain ⟨fs, hr, hrun, hended, hW, hsame⟩ := X19.leave (v := some (.ref v3)) (fun h => by rw [Bd.returns] at h; cases h)
          refine ⟨_, _, A20 _ ?_, hrun, hended, _, _, rfl, ?_, ⟨_, rfl⟩, hW, hsame.mono (by decide) (by decide)⟩
          · exact retOut X19 hx Bd.returns rfl (Or.inr (Or.inr (Or.inr (Or.inr ⟨rfl, rfl, rfl⟩)))) (hb hby dp_34) hr
          · show own_Qpick Z i v0 v1 v2 v3 v4 v5 h0 n0 _ T19.heap _
            rw [e19]
            exact ⟨by simp [own_pickA, hc2, hc7, hc12, hc17], N0, rfl⟩
        · have A21 : ∀ t, Steps p.tables e below (s₁.setTop (mkF m 37 #[.val (.int i)] [(.int (4 : Int32)), (.int i)])) t → Steps p.tables e below (s₁.setTop (entryFrame m #[(.int i)] 1)) t := by
            intro t k
            refine A16 _ ?_
            refine XS.icmpYes X0.here hx rfl (pc0 := 28) (pc' := 35) rfl (hb hby dp_28) rfl (feq hc17).2 (by decide) (by decide) ?_
            show Steps p.tables e below (s₁.setTop (mkF m 35 #[.val (.int i)] [])) _
            refine XS.iloadN X0.here hx rfl (hb hby dp_35) rfl ?_
            show Steps p.tables e below (s₁.setTop (mkF m 36 #[.val (.int i)] [(.int i)])) _
            refine XS.iconst X0.here hx rfl (hb hby dp_36) ?_
            show Steps p.tables e below (s₁.setTop (mkF m 37 #[.val (.int i)] [(.int (4 : Int32)), (.int i)])) _
            exact k
          by_cases hc22 : i = (4 : Int32)
          · have A23 : ∀ t, Steps p.tables e below (s₁.setTop (mkF m 40 #[.val (.int i)] [])) t → Steps p.tables e below (s₁.setTop (entryFrame m #[(.int i)] 1)) t := by
              intro t k
              refine A21 _ ?_
              refine XS.icmpNo X0.here hx rfl (hb hby dp_37) rfl (teq hc22).2 ?_
              show Steps p.tables e below (s₁.setTop (mkF m 40 #[.val (.int i)] [])) _
              exact k
            obtain ⟨T24, X24, e24, st24⟩ := getS2 X0 hx hZ hown (host := "") (Or.inl (hw _ (List.mem_of_getElem? (i := 22) rfl))) Via.refl e0 S4 (g := (mkF m 40 #[.val (.int i)] [])) rfl (hb hby dp_40)
            have A25 : ∀ t, Steps p.tables e below (T24.setTop (mkF m 43 #[.val (.int i)] [(.ref v4)])) t → Steps p.tables e below (s₁.setTop (entryFrame m #[(.int i)] 1)) t := by
              intro t k
              refine A23 _ ?_
              refine st24 _ ?_
              show Steps p.tables e below (T24.setTop (mkF m 43 #[.val (.int i)] [(.ref v4)])) _
              exact k
            obtain ⟨fs, hr, hrun, hended, hW, hsame⟩ := X24.leave (v := some (.ref v4)) (fun h => by rw [Bd.returns] at h; cases h)
            refine ⟨_, _, A25 _ ?_, hrun, hended, _, _, rfl, ?_, ⟨_, rfl⟩, hW, hsame.mono (by decide) (by decide)⟩
            · exact retOut X24 hx Bd.returns rfl (Or.inr (Or.inr (Or.inr (Or.inr ⟨rfl, rfl, rfl⟩)))) (hb hby dp_43) hr
            · show own_Qpick Z i v0 v1 v2 v3 v4 v5 h0 n0 _ T24.heap _
              rw [e24]
              exact ⟨by simp [own_pickA, hc2, hc7, hc12, hc17, hc22], N0, rfl⟩
          · have A26 : ∀ t, Steps p.tables e below (s₁.setTop (mkF m 44 #[.val (.int i)] [])) t → Steps p.tables e below (s₁.setTop (entryFrame m #[(.int i)] 1)) t := by
              intro t k
              refine A21 _ ?_
              refine XS.icmpYes X0.here hx rfl (pc0 := 37) (pc' := 44) rfl (hb hby dp_37) rfl (feq hc22).2 (by decide) (by decide) ?_
              show Steps p.tables e below (s₁.setTop (mkF m 44 #[.val (.int i)] [])) _
              exact k
            obtain ⟨T27, X27, e27, st27⟩ := getS2 X0 hx hZ hown (host := "") (Or.inl (hw _ (List.mem_of_getElem? (i := 20) rfl))) Via.refl e0 S5 (g := (mkF m 44 #[.val (.int i)] [])) rfl (hb hby dp_44)
            have A28 : ∀ t, Steps p.tables e below (T27.setTop (mkF m 47 #[.val (.int i)] [(.ref v5)])) t → Steps p.tables e below (s₁.setTop (entryFrame m #[(.int i)] 1)) t := by
              intro t k
              refine A26 _ ?_
              refine st27 _ ?_
              show Steps p.tables e below (T27.setTop (mkF m 47 #[.val (.int i)] [(.ref v5)])) _
              exact k
            obtain ⟨fs, hr, hrun, hended, hW, hsame⟩ := X27.leave (v := some (.ref v5)) (fun h => by rw [Bd.returns] at h; cases h)
            refine ⟨_, _, A28 _ ?_, hrun, hended, _, _, rfl, ?_, ⟨_, rfl⟩, hW, hsame.mono (by decide) (by decide)⟩
            · exact retOut X27 hx Bd.returns rfl (Or.inr (Or.inr (Or.inr (Or.inr ⟨rfl, rfl, rfl⟩)))) (hb hby dp_47) hr
            · show own_Qpick Z i v0 v1 v2 v3 v4 v5 h0 n0 _ T27.heap _
              rw [e27]
              exact ⟨by simp [own_pickA, hc2, hc7, hc12, hc17, hc22], N0, rfl⟩
def own_Qreq (Z : State) (xa v0 : Addr) (h0 : Heap) (n0 : Nat) (v : Option Value) (h : Heap) (L : List Loc) : Prop := v = some (.int (if xa = v0 then 1 else 0)) ∧ Fr n0 L ∧ h = h0
theorem own_req_ef (m : MethodId) (x0 : Addr) : entryFrame m #[(.ref x0)] 1 = mkF m 0 #[.val (.ref x0)] [] := by first | (simp [entryFrame, mkF, argsToLocals, Value.category]; done) | rfl
set_option maxRecDepth 65536 in
set_option maxHeartbeats 40000000 in
theorem own_req (l : Launch) (Z : State) (a0 : Array Value) (hw : ∀ d ∈ tables_1, d.before a0 Z = true) (ws : List Jvm.Cond) (xa v0 : Addr) (h0 : Heap) (n0 : Nat) (Z0 : n0 ≤ h0.size) (S0 : Sta Z h0 "com/example/inweave/inweave/description/DescriptionNamespace" "V1_0_0" "Lcom/example/inweave/inweave/description/DescriptionNamespace;" (.ref v0)) :
    MetFree l (⟨"com/example/inweave/inweave/description/DescriptionNamespace", "requiresNames", "()Z"⟩ : MethodName) (head1 (Jvm.Cond.code (⟨"com/example/inweave/inweave/description/DescriptionNamespace", "requiresNames", "()Z"⟩ : MethodName) prog_15_method_12_code 1 (some .boolean) :: ws) ({ frames := 0, cells := 0, slots := 0, locals := 0 } : Room)) (fun a U => a = #[(.ref xa)] ∧ Z.Warmed39 U.vm ∧ U.heap = h0) (fun _ _ _ _ _ => True) (fun _ U o U' => ∃ v L, o = .returned v ∧ own_Qreq Z xa v0 h0 n0 v U'.heap L ∧ FrameEnd U o U' L ({ frames := 0, cells := 0, slots := 0, locals := 0 } : Room).cells ({ frames := 0, cells := 0, slots := 0, locals := 0 } : Room).slots) := by
  refine MetFree.of_bodySF (plainFor_of_name own_pn1) hisR ?_
  intro p e s m args below meth c s₁ Bd hml0 hP hK
  obtain ⟨rfl, hZ, hh⟩ := hP
  have hx := Bd.exec
  have hby := Bd.bytes
  have hml : c.maxLocals = 1 := hml0
  have hown : s.vm.findClass "com/example/inweave/inweave/description/DescriptionNamespace" = some m.cls := findClass_of_methodNamed Bd.named
  have hnm := (name_of_methodNamed Bd.named Bd.method).1
  have X0 : Stand p l e ({ frames := 0, cells := 0, slots := 0, locals := 0 } : Room) s m #[(.ref xa)] below meth c s₁ [] 0 0 := Stand.of_body Bd
  have e0 : s₁.heap = h0 := by rw [← hh, Bd.state]; rfl
  have N0 := Fr.nil n0
  have A0 : ∀ t, Steps p.tables e below (s₁.setTop (mkF m 0 #[.val (.ref xa)] [])) t → Steps p.tables e below (s₁.setTop (entryFrame m #[(.ref xa)] 1)) t := fun t k => castTop (own_req_ef m xa) k
  have A29 : ∀ t, Steps p.tables e below (s₁.setTop (mkF m 1 #[.val (.ref xa)] [(.ref xa)])) t → Steps p.tables e below (s₁.setTop (entryFrame m #[(.ref xa)] 1)) t := by
    intro t k
    refine A0 _ ?_
    refine XS.aloadN X0.here hx rfl (hb hby dr_0) rfl rfl ?_
    show Steps p.tables e below (s₁.setTop (mkF m 1 #[.val (.ref xa)] [(.ref xa)])) _
    exact k
  obtain ⟨T30, X30, e30, st30⟩ := getS2 X0 hx hZ hown (host := "") (Or.inl (hw _ (List.mem_of_getElem? (i := 13) rfl))) Via.refl e0 S0 (g := (mkF m 1 #[.val (.ref xa)] [(.ref xa)])) rfl (hb hby dr_1)
  have A31 : ∀ t, Steps p.tables e below (T30.setTop (mkF m 4 #[.val (.ref xa)] [(.ref v0), (.ref xa)])) t → Steps p.tables e below (s₁.setTop (entryFrame m #[(.ref xa)] 1)) t := by
    intro t k
    refine A29 _ ?_
    refine st30 _ ?_
    show Steps p.tables e below (T30.setTop (mkF m 4 #[.val (.ref xa)] [(.ref v0), (.ref xa)])) _
    exact k
  by_cases hc32 : xa = v0
  · have A33 : ∀ t, Steps p.tables e below (T30.setTop (mkF m 12 #[.val (.ref xa)] [(.int (1 : Int32))])) t → Steps p.tables e below (s₁.setTop (entryFrame m #[(.ref xa)] 1)) t := by
      intro t k
      refine A31 _ ?_
      refine Jvm.RoadKit.acmp (g := (mkF m 4 #[.val (.ref xa)] [(.ref v0), (.ref xa)])) X30 hx rfl rfl rfl (pc0 := 4) (pc' := 7) (same := true) rfl (hb hby dr_4) rfl (decide_eq_true (congrArg Value.ref hc32)) (by decide) (by decide) ?_
      show Steps p.tables e below (T30.setTop (mkF m 7 #[.val (.ref xa)] [])) _
      refine XS.iconst X30.here hx rfl (hb hby dr_7) ?_
      show Steps p.tables e below (T30.setTop (mkF m 8 #[.val (.ref xa)] [(.int (1 : Int32))])) _
      refine XS.goto X30.here hx rfl (pc0 := 8) (pc' := 12) rfl (hb hby dr_8) (by decide) (by decide) ?_
      show Steps p.tables e below (T30.setTop (mkF m 12 #[.val (.ref xa)] [(.int (1 : Int32))])) _
      exact k
    obtain ⟨fs, hr, hrun, hended, hW, hsame⟩ := X30.leave (v := some (.int (1 : Int32))) (fun h => by rw [Bd.returns] at h; cases h)
    refine ⟨_, _, A33 _ ?_, hrun, hended, _, _, rfl, ?_, ⟨_, rfl⟩, hW, hsame.mono (by decide) (by decide)⟩
    · exact retN X30 hx (t := .boolean) Bd.returns (by simp) (hb hby dr_12) hr
    · show own_Qreq Z xa v0 h0 n0 _ T30.heap _
      rw [e30]
      exact ⟨by simp [hc32], N0, rfl⟩
  · have A34 : ∀ t, Steps p.tables e below (T30.setTop (mkF m 12 #[.val (.ref xa)] [(.int (0 : Int32))])) t → Steps p.tables e below (s₁.setTop (entryFrame m #[(.ref xa)] 1)) t := by
      intro t k
      refine A31 _ ?_
      refine Jvm.RoadKit.acmp (g := (mkF m 4 #[.val (.ref xa)] [(.ref v0), (.ref xa)])) X30 hx rfl rfl rfl (pc0 := 4) (pc' := 11) (same := false) rfl (hb hby dr_4) rfl (decide_eq_false fun q => hc32 (Value.ref.inj q)) (by decide) (by decide) ?_
      show Steps p.tables e below (T30.setTop (mkF m 11 #[.val (.ref xa)] [])) _
      refine XS.iconst X30.here hx rfl (hb hby dr_11) ?_
      show Steps p.tables e below (T30.setTop (mkF m 12 #[.val (.ref xa)] [(.int (0 : Int32))])) _
      exact k
    obtain ⟨fs, hr, hrun, hended, hW, hsame⟩ := X30.leave (v := some (.int (0 : Int32))) (fun h => by rw [Bd.returns] at h; cases h)
    refine ⟨_, _, A34 _ ?_, hrun, hended, _, _, rfl, ?_, ⟨_, rfl⟩, hW, hsame.mono (by decide) (by decide)⟩
    · exact retN X30 hx (t := .boolean) Bd.returns (by simp) (hb hby dr_12) hr
    · show own_Qreq Z xa v0 h0 n0 _ T30.heap _
      rw [e30]
      exact ⟨by simp [hc32], N0, rfl⟩
def own_Q0 (Z : State) (xk : Int32) (h0 : Heap) (n0 : Nat) (v : Option Value) (h : Heap) (L : List Loc) : Prop := v = some (.int 1) ∧ Fr n0 L
theorem own_law_ef (m : MethodId) (x0 : Int32) : entryFrame m #[(.int x0)] maxLocals = mkF m 0 #[.val (.int x0), .unset, .unset, .unset] [] := by first | (simp [entryFrame, mkF, argsToLocals, Value.category, maxLocals]; done) | rfl
set_option maxRecDepth 65536 in
set_option maxHeartbeats 40000000 in
theorem own_law (l : Launch) (Z : State) (a0 : Array Value) (hw : ∀ d ∈ tables_1, d.before a0 Z = true) (ws : List Jvm.Cond) (xk : Int32) (v0 v1 v2 v3 v4 v5 : Addr) (h0 : Heap) (n0 : Nat) (Z0 : n0 ≤ h0.size) (S0 : Sta Z h0 "com/example/inweave/inweave/description/DescriptionNamespace" "V1_0_0" "Lcom/example/inweave/inweave/description/DescriptionNamespace;" (.ref v0)) (S1 : Sta Z h0 "com/example/inweave/inweave/description/DescriptionNamespace" "V1_1_0" "Lcom/example/inweave/inweave/description/DescriptionNamespace;" (.ref v1)) (S2 : Sta Z h0 "com/example/inweave/inweave/description/DescriptionNamespace" "V1_2_0" "Lcom/example/inweave/inweave/description/DescriptionNamespace;" (.ref v2)) (S3 : Sta Z h0 "com/example/inweave/inweave/description/DescriptionNamespace" "V1_3_0" "Lcom/example/inweave/inweave/description/DescriptionNamespace;" (.ref v3)) (S4 : Sta Z h0 "com/example/inweave/inweave/description/DescriptionNamespace" "V1_4_0" "Lcom/example/inweave/inweave/description/DescriptionNamespace;" (.ref v4)) (S5 : Sta Z h0 "com/example/inweave/inweave/description/DescriptionNamespace" "V1_5_0" "Lcom/example/inweave/inweave/description/DescriptionNamespace;" (.ref v5)) (E0 : Exa Z h0 v0 "com/example/inweave/inweave/description/DescriptionNamespace") (E1 : Exa Z h0 v1 "com/example/inweave/inweave/description/DescriptionNamespace") (E2 : Exa Z h0 v2 "com/example/inweave/inweave/description/DescriptionNamespace") (E3 : Exa Z h0 v3 "com/example/inweave/inweave/description/DescriptionNamespace") (E4 : Exa Z h0 v4 "com/example/inweave/inweave/description/DescriptionNamespace") (E5 : Exa Z h0 v5 "com/example/inweave/inweave/description/DescriptionNamespace") (ne1 : v1 ≠ v0) (ne2 : v2 ≠ v0) (ne3 : v3 ≠ v0) (ne4 : v4 ≠ v0) (ne5 : v5 ≠ v0) :
    MetFree l x (head1 (Jvm.Cond.code x code maxLocals ret :: ws) room_1) (fun a U => a = #[(.int xk)] ∧ Z.Warmed39 U.vm ∧ U.heap = h0) (fun _ _ _ _ _ => True) (fun _ U o U' => ∃ v L, o = .returned v ∧ own_Q0 Z xk h0 n0 v U'.heap L ∧ FrameEnd U o U' L room_1.cells room_1.slots) := by
  refine MetFree.of_bodySF (plainFor_of_name own_pn0) hisR ?_
  intro p e s m args below meth c s₁ Bd hml0 hP hK
  obtain ⟨rfl, hZ, hh⟩ := hP
  have hx := Bd.exec
  have hby := Bd.bytes
  have hml : c.maxLocals = 4 := hml0
  have hown : s.vm.findClass "com/example/inweave/inweave/description/DescriptionNamespaceRequiresNamesPinLaw" = some m.cls := findClass_of_methodNamed Bd.named
  have hnm := (name_of_methodNamed Bd.named Bd.method).1
  have X0 : Stand p l e room_1 s m #[(.int xk)] below meth c s₁ [] 0 0 := Stand.of_body Bd
  have e0 : s₁.heap = h0 := by rw [← hh, Bd.state]; rfl
  have N0 := Fr.nil n0
  have A0 : ∀ t, Steps p.tables e below (s₁.setTop (mkF m 0 #[.val (.int xk), .unset, .unset, .unset] [])) t → Steps p.tables e below (s₁.setTop (entryFrame m #[(.int xk)] maxLocals)) t := fun t k => castTop (own_law_ef m xk) k
  have A35 : ∀ t, Steps p.tables e below (s₁.setTop (mkF m 9 #[.val (.int xk), .val (.int ((xk &&& (2147483647 : Int32)) % (6 : Int32))), .unset, .unset] [(.int ((xk &&& (2147483647 : Int32)) % (6 : Int32)))])) t → Steps p.tables e below (s₁.setTop (entryFrame m #[(.int xk)] maxLocals)) t := by
    intro t k
    refine A0 _ ?_
    refine XS.iloadN X0.here hx rfl (hb hby at_0) rfl ?_
    show Steps p.tables e below (s₁.setTop (mkF m 1 #[.val (.int xk), .unset, .unset, .unset] [(.int xk)])) _
    refine X0.ldcInt hx hown (mvT hZ (hw _ (List.mem_of_getElem? (i := 0) rfl))) (g := (mkF m 1 #[.val (.int xk), .unset, .unset, .unset] [(.int xk)])) rfl (hb hby at_1) _ ?_
    show Steps p.tables e below (s₁.setTop (mkF m 3 #[.val (.int xk), .unset, .unset, .unset] [(.int (2147483647 : Int32)), (.int xk)])) _
    refine XS.iand X0.here hx rfl (hb hby at_3) rfl ?_
    show Steps p.tables e below (s₁.setTop (mkF m 4 #[.val (.int xk), .unset, .unset, .unset] [(.int (xk &&& (2147483647 : Int32)))])) _
    refine XS.bipush X0.here hx rfl (hb hby at_4) ?_
    show Steps p.tables e below (s₁.setTop (mkF m 6 #[.val (.int xk), .unset, .unset, .unset] [(.int (6 : Int32)), (.int (xk &&& (2147483647 : Int32)))])) _
    refine iremM X0 hx rfl (hb hby at_6) rfl (by decide) ?_
    show Steps p.tables e below (s₁.setTop (mkF m 7 #[.val (.int xk), .unset, .unset, .unset] [(.int ((xk &&& (2147483647 : Int32)) % (6 : Int32)))])) _
    refine XS.istoreN X0.here hx rfl (hb hby at_7) rfl (l' := #[.val (.int xk), .val (.int ((xk &&& (2147483647 : Int32)) % (6 : Int32))), .unset, .unset]) rfl ?_
    show Steps p.tables e below (s₁.setTop (mkF m 8 #[.val (.int xk), .val (.int ((xk &&& (2147483647 : Int32)) % (6 : Int32))), .unset, .unset] [])) _
    refine XS.iloadN X0.here hx rfl (hb hby at_8) rfl ?_
    show Steps p.tables e below (s₁.setTop (mkF m 9 #[.val (.int xk), .val (.int ((xk &&& (2147483647 : Int32)) % (6 : Int32))), .unset, .unset] [(.int ((xk &&& (2147483647 : Int32)) % (6 : Int32)))])) _
    exact k
  obtain ⟨_, _, ⟨T36, L36, k36, n36⟩, -, X36, ⟨Lc36, hQ36, l36, y36, z36⟩, st36⟩ := Jvm.LawKit.callS X0 hx (y := (⟨"com/example/inweave/inweave/description/DescriptionNamespaceRequiresNamesPinLaw", "pick", "(I)Lcom/example/inweave/inweave/description/DescriptionNamespace;"⟩ : MethodName)) hown (mvT hZ (hw _ (List.mem_of_getElem? (i := 1) rfl))) (mvT hZ (hw _ (List.mem_of_getElem? (i := 2) rfl))) (mvT hZ (hw _ (List.mem_of_getElem? (i := 3) rfl))) (mvT hZ (hw _ (List.mem_of_getElem? (i := 4) rfl))) (by decide) (backOf (W := 0) (own_pick l Z a0 hw [] ((xk &&& (2147483647 : Int32)) % (6 : Int32)) v0 v1 v2 v3 v4 v5 h0 n0 Z0 S0 S1 S2 S3 S4 S5) hZ (hw _ (List.mem_of_getElem? (i := 4) rfl)) (hw _ (List.mem_of_getElem? (i := 3) rfl)) (by decide) (by decide)) (g := (mkF m 9 #[.val (.int xk), .val (.int ((xk &&& (2147483647 : Int32)) % (6 : Int32))), .unset, .unset] [(.int ((xk &&& (2147483647 : Int32)) % (6 : Int32)))])) rfl (by rw [hml]; rfl) (argsL := [(.int ((xk &&& (2147483647 : Int32)) % (6 : Int32)))]) (rest := []) (lenOf own_pd0 rfl) rfl (by show 2 * 0 + _ ≤ _; exact Nat.le_of_eq rfl) (hb hby at_9) (fun _ _ => ⟨rfl, e0, (by decide : 0 + 0 ≤ _), (by decide : 0 + 0 ≤ _)⟩)
  dsimp only [Pt.U, Pt.locs, Pt.cells, Pt.slots] at X36 l36 y36 z36 st36 hQ36
  subst l36 y36 z36
  obtain ⟨rfl, Nq36, eh36⟩ := hQ36
  have Nf37 := Fr.app N0 Nq36
  have A38 : ∀ t, Steps p.tables e below (T36.setTop (mkF m 14 #[.val (.int xk), .val (.int ((xk &&& (2147483647 : Int32)) % (6 : Int32))), .val (.ref (own_pickA ((xk &&& (2147483647 : Int32)) % (6 : Int32)) v0 v1 v2 v3 v4 v5)), .unset] [(.int ((xk &&& (2147483647 : Int32)) % (6 : Int32)))])) t → Steps p.tables e below (s₁.setTop (entryFrame m #[(.int xk)] maxLocals)) t := by
    intro t k
    refine A35 _ ?_
    refine st36 _ ?_
    show Steps p.tables e below (T36.setTop (mkF m 12 #[.val (.int xk), .val (.int ((xk &&& (2147483647 : Int32)) % (6 : Int32))), .unset, .unset] [(.ref (own_pickA ((xk &&& (2147483647 : Int32)) % (6 : Int32)) v0 v1 v2 v3 v4 v5))])) _
    refine XS.astoreN X36.here hx rfl (hb hby at_12) rfl rfl (l' := #[.val (.int xk), .val (.int ((xk &&& (2147483647 : Int32)) % (6 : Int32))), .val (.ref (own_pickA ((xk &&& (2147483647 : Int32)) % (6 : Int32)) v0 v1 v2 v3 v4 v5)), .unset]) rfl ?_
    show Steps p.tables e below (T36.setTop (mkF m 13 #[.val (.int xk), .val (.int ((xk &&& (2147483647 : Int32)) % (6 : Int32))), .val (.ref (own_pickA ((xk &&& (2147483647 : Int32)) % (6 : Int32)) v0 v1 v2 v3 v4 v5)), .unset] [])) _
    refine XS.iloadN X36.here hx rfl (hb hby at_13) rfl ?_
    show Steps p.tables e below (T36.setTop (mkF m 14 #[.val (.int xk), .val (.int ((xk &&& (2147483647 : Int32)) % (6 : Int32))), .val (.ref (own_pickA ((xk &&& (2147483647 : Int32)) % (6 : Int32)) v0 v1 v2 v3 v4 v5)), .unset] [(.int ((xk &&& (2147483647 : Int32)) % (6 : Int32)))])) _
    exact k
  obtain ⟨u40, hu40⟩ : ∃ u : Int32, u = (if ((xk &&& (2147483647 : Int32)) % (6 : Int32)) = (0 : Int32) then (1 : Int32) else (0 : Int32)) := ⟨_, rfl⟩
  have A41 : ∀ t, Steps p.tables e below (T36.setTop (mkF m 22 #[.val (.int xk), .val (.int ((xk &&& (2147483647 : Int32)) % (6 : Int32))), .val (.ref (own_pickA ((xk &&& (2147483647 : Int32)) % (6 : Int32)) v0 v1 v2 v3 v4 v5)), .unset] [(.int u40)])) t → Steps p.tables e below (s₁.setTop (entryFrame m #[(.int xk)] maxLocals)) t := by
    intro t k
    refine A38 _ ?_
    by_cases hj39 : ((xk &&& (2147483647 : Int32)) % (6 : Int32)) = (0 : Int32)
    · refine XS.ifNo X36.here hx rfl (hb hby at_14) rfl ((if0 _ _).trans (teq hj39).2) ?_
      show Steps p.tables e below (T36.setTop (mkF m 17 #[.val (.int xk), .val (.int ((xk &&& (2147483647 : Int32)) % (6 : Int32))), .val (.ref (own_pickA ((xk &&& (2147483647 : Int32)) % (6 : Int32)) v0 v1 v2 v3 v4 v5)), .unset] [])) _
      refine XS.iconst X36.here hx rfl (hb hby at_17) ?_
      show Steps p.tables e below (T36.setTop (mkF m 18 #[.val (.int xk), .val (.int ((xk &&& (2147483647 : Int32)) % (6 : Int32))), .val (.ref (own_pickA ((xk &&& (2147483647 : Int32)) % (6 : Int32)) v0 v1 v2 v3 v4 v5)), .unset] [(.int (1 : Int32))])) _
      refine XS.goto X36.here hx rfl (pc0 := 18) (pc' := 22) rfl (hb hby at_18) (by decide) (by decide) ?_
      show Steps p.tables e below (T36.setTop (mkF m 22 #[.val (.int xk), .val (.int ((xk &&& (2147483647 : Int32)) % (6 : Int32))), .val (.ref (own_pickA ((xk &&& (2147483647 : Int32)) % (6 : Int32)) v0 v1 v2 v3 v4 v5)), .unset] [(.int (1 : Int32))])) _
      have qu40 : u40 = (1 : Int32) := by rw [hu40]; simp [hj39]
      rw [qu40] at k
      exact k
    · refine XS.ifYes X36.here hx rfl (pc0 := 14) (pc' := 21) rfl (hb hby at_14) rfl ((if0 _ _).trans (feq hj39).2) (by decide) (by decide) ?_
      show Steps p.tables e below (T36.setTop (mkF m 21 #[.val (.int xk), .val (.int ((xk &&& (2147483647 : Int32)) % (6 : Int32))), .val (.ref (own_pickA ((xk &&& (2147483647 : Int32)) % (6 : Int32)) v0 v1 v2 v3 v4 v5)), .unset] [])) _
      refine XS.iconst X36.here hx rfl (hb hby at_21) ?_
      show Steps p.tables e below (T36.setTop (mkF m 22 #[.val (.int xk), .val (.int ((xk &&& (2147483647 : Int32)) % (6 : Int32))), .val (.ref (own_pickA ((xk &&& (2147483647 : Int32)) % (6 : Int32)) v0 v1 v2 v3 v4 v5)), .unset] [(.int (0 : Int32))])) _
      have qu40 : u40 = (0 : Int32) := by rw [hu40]; simp [hj39]
      rw [qu40] at k
      exact k
  have EA : Exa Z h0 (own_pickA ((xk &&& (2147483647 : Int32)) % (6 : Int32)) v0 v1 v2 v3 v4 v5) "com/example/inweave/inweave/description/DescriptionNamespace" := by
    unfold own_pickA
    (repeat' split) <;> assumption
  have A42 : ∀ t, Steps p.tables e below (T36.setTop (mkF m 24 #[.val (.int xk), .val (.int ((xk &&& (2147483647 : Int32)) % (6 : Int32))), .val (.ref (own_pickA ((xk &&& (2147483647 : Int32)) % (6 : Int32)) v0 v1 v2 v3 v4 v5)), .val (.int u40)] [(.ref (own_pickA ((xk &&& (2147483647 : Int32)) % (6 : Int32)) v0 v1 v2 v3 v4 v5))])) t → Steps p.tables e below (s₁.setTop (entryFrame m #[(.int xk)] maxLocals)) t := by
    intro t k
    refine A41 _ ?_
    refine XS.istoreN X36.here hx rfl (hb hby at_22) rfl (l' := #[.val (.int xk), .val (.int ((xk &&& (2147483647 : Int32)) % (6 : Int32))), .val (.ref (own_pickA ((xk &&& (2147483647 : Int32)) % (6 : Int32)) v0 v1 v2 v3 v4 v5)), .val (.int u40)]) rfl ?_
    show Steps p.tables e below (T36.setTop (mkF m 23 #[.val (.int xk), .val (.int ((xk &&& (2147483647 : Int32)) % (6 : Int32))), .val (.ref (own_pickA ((xk &&& (2147483647 : Int32)) % (6 : Int32)) v0 v1 v2 v3 v4 v5)), .val (.int u40)] [])) _
    refine XS.aloadN X36.here hx rfl (hb hby at_23) rfl rfl ?_
    show Steps p.tables e below (T36.setTop (mkF m 24 #[.val (.int xk), .val (.int ((xk &&& (2147483647 : Int32)) % (6 : Int32))), .val (.ref (own_pickA ((xk &&& (2147483647 : Int32)) % (6 : Int32)) v0 v1 v2 v3 v4 v5)), .val (.int u40)] [(.ref (own_pickA ((xk &&& (2147483647 : Int32)) % (6 : Int32)) v0 v1 v2 v3 v4 v5))])) _
    exact k
  obtain ⟨cq43, kq43, q43a, q43b, q43c⟩ := isOf hZ eh36 EA
  obtain ⟨_, _, ⟨T43, L43, k43, n43⟩, -, X43, ⟨Lc43, hQ43, l43, y43, z43⟩, st43⟩ := X36.virtualBack hx (y := (⟨"com/example/inweave/inweave/description/DescriptionNamespace", "requiresNames", "()Z"⟩ : MethodName)) (z := (⟨"com/example/inweave/inweave/description/DescriptionNamespace", "requiresNames", "()Z"⟩ : MethodName)) hown (mvT hZ (hw _ (List.mem_of_getElem? (i := 8) rfl))) (mvT hZ (hw _ (List.mem_of_getElem? (i := 9) rfl))) (notFace_of_selects (args := #[]) (mvT hZ (hw _ (List.mem_of_getElem? (i := 11) rfl)))) (mvT hZ (hw _ (List.mem_of_getElem? (i := 11) rfl))) (mvT hZ (hw _ (List.mem_of_getElem? (i := 10) rfl))) (by decide) (backOf (W := 0) (own_req l Z a0 hw [] (own_pickA ((xk &&& (2147483647 : Int32)) % (6 : Int32)) v0 v1 v2 v3 v4 v5) v0 h0 n0 Z0 S0) hZ (hw _ (List.mem_of_getElem? (i := 12) rfl)) (hw _ (List.mem_of_getElem? (i := 6) rfl)) (by decide) (by decide)) q43a q43c (g := (mkF m 24 #[.val (.int xk), .val (.int ((xk &&& (2147483647 : Int32)) % (6 : Int32))), .val (.ref (own_pickA ((xk &&& (2147483647 : Int32)) % (6 : Int32)) v0 v1 v2 v3 v4 v5)), .val (.int u40)] [(.ref (own_pickA ((xk &&& (2147483647 : Int32)) % (6 : Int32)) v0 v1 v2 v3 v4 v5))])) rfl (by rw [hml]; rfl) (Steps.refl _) (argsL := []) (rest := []) (lenOf own_pd1 rfl) rfl (by show 2 * 0 + _ ≤ _; exact Nat.le_of_eq rfl) (hb hby at_24) (fun _ _ => ⟨rfl, eh36, (by decide : 0 + 0 ≤ _), (by decide : 0 + 0 ≤ _)⟩)
  dsimp only [Pt.U, Pt.locs, Pt.cells, Pt.slots] at X43 l43 y43 z43 st43 hQ43
  subst l43 y43 z43
  obtain ⟨rfl, Nq43, eh43⟩ := hQ43
  have Nf44 := Fr.app Nf37 Nq43
  have A45 : ∀ t, Steps p.tables e below (T43.setTop (mkF m 28 #[.val (.int xk), .val (.int ((xk &&& (2147483647 : Int32)) % (6 : Int32))), .val (.ref (own_pickA ((xk &&& (2147483647 : Int32)) % (6 : Int32)) v0 v1 v2 v3 v4 v5)), .val (.int u40)] [(.int u40), (.int (if (own_pickA ((xk &&& (2147483647 : Int32)) % (6 : Int32)) v0 v1 v2 v3 v4 v5) = v0 then (1 : Int32) else 0))])) t → Steps p.tables e below (s₁.setTop (entryFrame m #[(.int xk)] maxLocals)) t := by
    intro t k
    refine A42 _ ?_
    refine st43.trans ?_
    show Steps p.tables e below (T43.setTop (mkF m 27 #[.val (.int xk), .val (.int ((xk &&& (2147483647 : Int32)) % (6 : Int32))), .val (.ref (own_pickA ((xk &&& (2147483647 : Int32)) % (6 : Int32)) v0 v1 v2 v3 v4 v5)), .val (.int u40)] [(.int (if (own_pickA ((xk &&& (2147483647 : Int32)) % (6 : Int32)) v0 v1 v2 v3 v4 v5) = v0 then (1 : Int32) else 0))])) _
    refine XS.iloadN X43.here hx rfl (hb hby at_27) rfl ?_
    show Steps p.tables e below (T43.setTop (mkF m 28 #[.val (.int xk), .val (.int ((xk &&& (2147483647 : Int32)) % (6 : Int32))), .val (.ref (own_pickA ((xk &&& (2147483647 : Int32)) % (6 : Int32)) v0 v1 v2 v3 v4 v5)), .val (.int u40)] [(.int u40), (.int (if (own_pickA ((xk &&& (2147483647 : Int32)) % (6 : Int32)) v0 v1 v2 v3 v4 v5) = v0 then (1 : Int32) else 0))])) _
    exact k
  have hq : (if (own_pickA ((xk &&& (2147483647 : Int32)) % (6 : Int32)) v0 v1 v2 v3 v4 v5) = v0 then (1 : Int32) else 0) = u40 := by
    rw [hu40]
    by_cases hz : ((xk &&& (2147483647 : Int32)) % (6 : Int32)) = 0
    · simp [own_pickA, hz]
    · have hne : (own_pickA ((xk &&& (2147483647 : Int32)) % (6 : Int32)) v0 v1 v2 v3 v4 v5) ≠ v0 := by
        unfold own_pickA
        rw [if_neg hz]
        (repeat' split) <;> assumption
      rw [if_neg hne, if_neg hz]
  have A46 : ∀ t, Steps p.tables e below (T43.setTop (mkF m 36 #[.val (.int xk), .val (.int ((xk &&& (2147483647 : Int32)) % (6 : Int32))), .val (.ref (own_pickA ((xk &&& (2147483647 : Int32)) % (6 : Int32)) v0 v1 v2 v3 v4 v5)), .val (.int u40)] [(.int (1 : Int32))])) t → Steps p.tables e below (s₁.setTop (entryFrame m #[(.int xk)] maxLocals)) t := by
    intro t k
    refine A45 _ ?_
    refine XS.icmpNo X43.here hx rfl (hb hby at_28) rfl (teq hq).2 ?_
    show Steps p.tables e below (T43.setTop (mkF m 31 #[.val (.int xk), .val (.int ((xk &&& (2147483647 : Int32)) % (6 : Int32))), .val (.ref (own_pickA ((xk &&& (2147483647 : Int32)) % (6 : Int32)) v0 v1 v2 v3 v4 v5)), .val (.int u40)] [])) _
    refine XS.iconst X43.here hx rfl (hb hby at_31) ?_
    show Steps p.tables e below (T43.setTop (mkF m 32 #[.val (.int xk), .val (.int ((xk &&& (2147483647 : Int32)) % (6 : Int32))), .val (.ref (own_pickA ((xk &&& (2147483647 : Int32)) % (6 : Int32)) v0 v1 v2 v3 v4 v5)), .val (.int u40)] [(.int (1 : Int32))])) _
    refine XS.goto X43.here hx rfl (pc0 := 32) (pc' := 36) rfl (hb hby at_32) (by decide) (by decide) ?_
    show Steps p.tables e below (T43.setTop (mkF m 36 #[.val (.int xk), .val (.int ((xk &&& (2147483647 : Int32)) % (6 : Int32))), .val (.ref (own_pickA ((xk &&& (2147483647 : Int32)) % (6 : Int32)) v0 v1 v2 v3 v4 v5)), .val (.int u40)] [(.int (1 : Int32))])) _
    exact k
  obtain ⟨fs, hr, hrun, hended, hW, hsame⟩ := X43.leave (v := some (.int (1 : Int32))) (fun h => by rw [Bd.returns] at h; cases h)
  refine ⟨_, _, A46 _ ?_, hrun, hended, _, _, rfl, ?_, ⟨_, rfl⟩, hW, hsame.mono (by decide) (by decide)⟩
  · exact retN X43 hx (t := .boolean) Bd.returns (by simp) (hb hby at_36) hr
  · show own_Q0 Z xk h0 n0 _ T43.heap _
    rw [eh43]
    exact ⟨rfl, Nf44⟩
set_option maxRecDepth 65536 in
set_option maxHeartbeats 40000000 in
theorem comes_1 {Post : Tables → Env → Array Value → State → Outcome → State → Prop} (hpost : ∀ tb e args s v u, (limb_1_1.after args s (.returned v) u = true ∧ limb_1_2.after args s (.returned v) u = true ∧ True) → FrameEnd s (.returned v) u (Jvm.fieldLocs frame_1_writes args s ++ Jvm.arrayLocs frame_1_arrays args s ++ Jvm.staticLocs frame_1_statics s) 0 0 → Post tb e args s (.returned v) u) :
    ArmFor flags0 classFile x code maxLocals ret World_1 tables_1 room_1 Calls_1 rest_1 Pre_1 Post := by
  intro l hfl _ _ p e ha hc hk s m args below hf hA hF happ hP
  obtain ⟨hcalls, hrest, hpre⟩ := hP
  obtain ⟨-, -, -, hnamed, -, -, -, hat⟩ := (Spec.applies_iff hf).mp happ
  obtain ⟨hg, hn⟩ := and_e (Cond.before_iff.mp (show (Jvm.Cond.and given_1 narrow_1).before args s = true from hpre))
  obtain ⟨hcount, hg⟩ := and_e hg
  have ga0 := hg
  obtain ⟨w0, rfl⟩ : ∃ w0 : Value, args = #[w0] := by
    have hs : args.size = 1 := by simpa [Cond.value, given_1] using hcount
    obtain ⟨L⟩ := args
    match L, hs with
    | [w0], _ => exact ⟨w0, rfl⟩
  have hw := fun d (hd : d ∈ tables_1) => atoms_spec (ws := Jvm.Cond.code x code maxLocals ret :: tables_1) hat d (List.mem_cons_of_mem _ hd)
  have hfit : Fit s := fun {y c} hc i hi => by
    obtain ⟨ha, rfl⟩ := Array.getElem?_eq_some_iff.mp hc
    have q := List.all_eq_true.mp ((Array.all_eq_true_iff_forall_mem.mp hF) _ (Array.getElem_mem ha)) i (List.mem_range.mpr hi)
    simpa [Array.getElem?_eq_getElem hi] using q
  obtain ⟨i0, ei0⟩ := is_v ga0
  obtain rfl : w0 = (.int i0) := Option.some.inj ei0
  obtain ⟨c0, hn⟩ := and_e hn
  obtain ⟨c1, hn⟩ := and_e hn
  obtain ⟨c2, hn⟩ := and_e hn
  obtain ⟨c3, hn⟩ := and_e hn
  obtain ⟨c4, hn⟩ := and_e hn
  obtain ⟨c5, hn⟩ := and_e hn
  obtain ⟨c6, hn⟩ := and_e hn
  obtain ⟨c7, hn⟩ := and_e hn
  obtain ⟨c8, hn⟩ := and_e hn
  obtain ⟨c9, hn⟩ := and_e hn
  obtain ⟨c10, hn⟩ := and_e hn
  have c11 := hn
  obtain ⟨v0, ev0⟩ := exa_v c0
  have E0 := Exa.start ev0 c0
  have S0 := Sta.start ev0 (Or.inr ⟨(hw _ (List.mem_of_getElem? (i := 6) rfl)), (hw _ (List.mem_of_getElem? (i := 7) rfl))⟩)
  obtain ⟨v3, ev3⟩ := exa_v c1
  have E3 := Exa.start ev3 c1
  have S3 := Sta.start ev3 (Or.inr ⟨(hw _ (List.mem_of_getElem? (i := 6) rfl)), (hw _ (List.mem_of_getElem? (i := 15) rfl))⟩)
  obtain ⟨v2, ev2⟩ := exa_v c4
  have E2 := Exa.start ev2 c4
  have S2 := Sta.start ev2 (Or.inr ⟨(hw _ (List.mem_of_getElem? (i := 6) rfl)), (hw _ (List.mem_of_getElem? (i := 17) rfl))⟩)
  obtain ⟨v1, ev1⟩ := exa_v c6
  have E1 := Exa.start ev1 c6
  have S1 := Sta.start ev1 (Or.inr ⟨(hw _ (List.mem_of_getElem? (i := 6) rfl)), (hw _ (List.mem_of_getElem? (i := 19) rfl))⟩)
  obtain ⟨v5, ev5⟩ := exa_v c8
  have E5 := Exa.start ev5 c8
  have S5 := Sta.start ev5 (Or.inr ⟨(hw _ (List.mem_of_getElem? (i := 6) rfl)), (hw _ (List.mem_of_getElem? (i := 21) rfl))⟩)
  obtain ⟨v4, ev4⟩ := exa_v c10
  have E4 := Exa.start ev4 c10
  have S4 := Sta.start ev4 (Or.inr ⟨(hw _ (List.mem_of_getElem? (i := 6) rfl)), (hw _ (List.mem_of_getElem? (i := 23) rfl))⟩)
  have F3 := Fld.start ((fld_at ev3).symm.trans (Cond.eq_int (Cond.before_iff.mpr c2) rfl))
  have F0 := Fld.start ((fld_at ev0).symm.trans (Cond.eq_int (Cond.before_iff.mpr c3) rfl))
  have F2 := Fld.start ((fld_at ev2).symm.trans (Cond.eq_int (Cond.before_iff.mpr c5) rfl))
  have F1 := Fld.start ((fld_at ev1).symm.trans (Cond.eq_int (Cond.before_iff.mpr c7) rfl))
  have F5 := Fld.start ((fld_at ev5).symm.trans (Cond.eq_int (Cond.before_iff.mpr c9) rfl))
  have F4 := Fld.start ((fld_at ev4).symm.trans (Cond.eq_int (Cond.before_iff.mpr c11) rfl))
  have ne1 : v1 ≠ v0 := Fld.ne F1 F0 (fun q => absurd (Value.int.inj q) (by decide))
  have ne2 : v2 ≠ v0 := Fld.ne F2 F0 (fun q => absurd (Value.int.inj q) (by decide))
  have ne3 : v3 ≠ v0 := Fld.ne F3 F0 (fun q => absurd (Value.int.inj q) (by decide))
  have ne4 : v4 ≠ v0 := Fld.ne F4 F0 (fun q => absurd (Value.int.inj q) (by decide))
  have ne5 : v5 ≠ v0 := Fld.ne F5 F0 (fun q => absurd (Value.int.inj q) (by decide))
  obtain ⟨n, o, h1, h2, h3, _, L, rfl, ⟨rfl, N⟩, hq⟩ := own_law l s _ hw tables_1 i0 v0 v1 v2 v3 v4 v5 s.heap s.heap.size (Nat.le_refl _) S0 S1 S2 S3 S4 S5 E0 E1 E2 E3 E4 E5 ne1 ne2 ne3 ne4 ne5 p e ha hc hk s m _ below hf ((Spec.applies_iff_loose hf).mp happ).1 ⟨rfl, State.Warmed39.refl s, rfl⟩ trivial
  refine ⟨n, _, h1, h2, h3, hpost _ _ _ _ _ _ ⟨Cond.after_iff.mpr rfl, Cond.after_iff.mpr (eq_i res_at (Term.int_eval (1)) rfl), trivial⟩ ⟨hq.1, hq.2.1, (hq.2.2.sift fun y hy => Or.inr (N y hy)).mono (by decide) (by decide)⟩⟩
theorem main_1_1 : Claimed_1_1 := comes_1 fun _ _ _ _ _ _ h hF => ⟨h.1, hF⟩
theorem main_1_2 : Claimed_1_2 := comes_1 fun _ _ _ _ _ _ h hF => ⟨h.2.1, hF⟩
end Jvm.Pilot.@@N@@
namespace Jvm.Pilot.@@N@@
open Jvm Jvm.ClassFile Sem Op Lib Jvm.Free Jvm.Stand Jvm.Pilot.@@N@@.Jvm.D
/-! MADE BY PROGRAM (witnessworld.py) out of the Statement's table words and the real class files: 12 classes; the members and pool entries that the words name. The judged class is class 1, her method 1. -/
namespace start1
open Jvm.ClassFile
def u (s : String) : CpInfo := .utf8 (stringToUtf16 s)
/-- a pool by its gaps: so many unusable entries, then the entry; so many at the end -/
def gap : Nat → List CpInfo → List CpInfo
  | 0, r => r
  | n + 1, r => .unusable :: gap n r
def poolList (es : List (Nat × CpInfo)) (last : Nat) : List CpInfo := es.foldr (fun e r => gap e.1 (e.2 :: r)) (gap last [])
def pool (es : List (Nat × CpInfo)) (last : Nat) : Array CpInfo := ⟨poolList es last⟩
def fileOf (pool : Array CpInfo) (this : Nat) (attrs : Array Attribute := #[]) (ms : Array MethodInfo := #[]) (fl : Nat := 33) (sup : Nat := 0) (ifs : Array Nat := #[]) (fds : Array FieldInfo := #[]) : ClassFile where
  minorVersion := 0
  majorVersion := 65
  constantPool := pool
  accessFlags := fl
  thisClass := this
  superClass := sup
  interfaces := ifs
  fields := fds
  methods := ms
  attributes := attrs
def plain (name : String) (sup : Option ClassId) : Class where
  name := name
  kind := .ordinary
  loader := none
  accessFlags := 33
  super := sup
  interfaces := #[]
  cf := none
  fields := #[]
  methods := #[]
  instanceTypes := #[]
  staticTypes := #[]
  resolved := #[]
  callSites := []
  init := .initialized
  statics := none
  mirror := none

def pool0 : Array CpInfo := pool [(5, u "<init>"), (0, u "()V"), (1, .class_ 10), (1, u "java/lang/Object")] 113

def k0m0 : Method := { name := "<init>", desc := "()V", sig := { parameters := [], returnType := none }, accessFlags := 1, code := none }
/-- java/lang/Object -/
def k0 : Class := { plain "java/lang/Object" none with
  accessFlags := 33
  interfaces := #[]
  cf := some (fileOf pool0 8 #[] #[{ accessFlags := 1, nameIndex := 5, descriptorIndex := 6, attributes := #[] }] 33 0 #[] #[])
  fields := #[]
  methods := #[k0m0]
  instanceTypes := #[]
  staticTypes := #[]
  resolved := Array.replicate 124 none
  statics := none }

def pool1 : Array CpInfo := pool [(2, .class_ 4), (1, u "java/lang/Object"), (0, u "<init>"), (0, u "()V"), (0, .integer 2147483647), (0, .methodref 9 10), (0, .class_ 11), (0, .nameAndType 12 13), (0, u "com/example/inweave/inweave/description/DescriptionNamespaceRequiresNamesPinLaw"), (0, u "pick"), (0, u "(I)Lcom/example/inweave/inweave/description/DescriptionNamespace;"), (0, .methodref 15 16), (0, .class_ 17), (0, .nameAndType 18 19), (0, u "com/example/inweave/inweave/description/DescriptionNamespace"), (0, u "requiresNames"), (0, u "()Z"), (0, .fieldref 15 21), (0, .nameAndType 22 23), (0, u "V1_0_0"), (0, u "Lcom/example/inweave/inweave/description/DescriptionNamespace;"), (0, .fieldref 15 25), (0, .nameAndType 26 23), (0, u "V1_1_0"), (0, .fieldref 15 28), (0, .nameAndType 29 23), (0, u "V1_2_0"), (0, .fieldref 15 31), (0, .nameAndType 32 23), (0, u "V1_3_0"), (0, .fieldref 15 34), (0, .nameAndType 35 23), (0, u "V1_4_0"), (0, .fieldref 15 37), (0, .nameAndType 38 23), (0, u "V1_5_0"), (2, u "law"), (0, u "(I)Z")] 3

def k1m0 : Method := { name := "<init>", desc := "()V", sig := { parameters := [], returnType := none }, accessFlags := 1, code := none }
def k1c1 : Code := { maxStack := 2, maxLocals := 4, code := code, exceptionTable := #[], attributes := #[] }
def k1m1 : Method := { name := "law", desc := "(I)Z", sig := { parameters := [.int], returnType := some .boolean }, accessFlags := 9, code := some k1c1 }
def k1c2 : Code := { maxStack := 2, maxLocals := 1, code := method_3_code, exceptionTable := #[], attributes := #[] }
def k1m2 : Method := { name := "pick", desc := "(I)Lcom/example/inweave/inweave/description/DescriptionNamespace;", sig := { parameters := [.int], returnType := some (.object "com/example/inweave/inweave/description/DescriptionNamespace") }, accessFlags := 10, code := some k1c2 }
/-- com/example/inweave/inweave/description/DescriptionNamespaceRequiresNamesPinLaw -/
def k1 : Class := { plain "com/example/inweave/inweave/description/DescriptionNamespaceRequiresNamesPinLaw" (some 0) with
  accessFlags := 49
  interfaces := #[]
  cf := some (fileOf pool1 9 #[] #[{ accessFlags := 1, nameIndex := 5, descriptorIndex := 6, attributes := #[] }, { accessFlags := 9, nameIndex := 41, descriptorIndex := 42, attributes := #[] }, { accessFlags := 10, nameIndex := 12, descriptorIndex := 13, attributes := #[] }] 49 2 #[] #[])
  fields := #[]
  methods := #[k1m0, k1m1, k1m2]
  instanceTypes := #[]
  staticTypes := #[]
  resolved := Array.replicate 46 none
  statics := none }

def pool2 : Array CpInfo := pool [(1, .class_ 2), (0, u "java/lang/constant/Constable"), (0, .class_ 4), (0, u "java/lang/Object")] 6

/-- java/lang/constant/Constable -/
def k2 : Class := { plain "java/lang/constant/Constable" (some 0) with
  accessFlags := 1537
  interfaces := #[]
  cf := some (fileOf pool2 1 #[] #[] 1537 3 #[] #[])
  fields := #[]
  methods := #[]
  instanceTypes := #[]
  staticTypes := #[]
  resolved := Array.replicate 11 none
  statics := none }

def pool3 : Array CpInfo := pool [(1, .class_ 2), (0, u "java/lang/Comparable"), (0, .class_ 4), (0, u "java/lang/Object")] 7

/-- java/lang/Comparable -/
def k3 : Class := { plain "java/lang/Comparable" (some 0) with
  accessFlags := 1537
  interfaces := #[]
  cf := some (fileOf pool3 1 #[] #[] 1537 3 #[] #[])
  fields := #[]
  methods := #[]
  instanceTypes := #[]
  staticTypes := #[]
  resolved := Array.replicate 12 none
  statics := none }

def pool4 : Array CpInfo := pool [(1, .class_ 2), (0, u "java/io/Serializable"), (0, .class_ 4), (0, u "java/lang/Object")] 2

/-- java/io/Serializable -/
def k4 : Class := { plain "java/io/Serializable" (some 0) with
  accessFlags := 1537
  interfaces := #[]
  cf := some (fileOf pool4 1 #[] #[] 1537 3 #[] #[])
  fields := #[]
  methods := #[]
  instanceTypes := #[]
  staticTypes := #[]
  resolved := Array.replicate 7 none
  statics := none }

def pool5 : Array CpInfo := pool [(2, .class_ 4), (1, u "java/lang/Enum"), (0, u "name"), (0, u "Ljava/lang/String;"), (2, u "ordinal"), (0, u "I"), (1, .class_ 14), (1, u "java/lang/Object"), (4, u "hash"), (86, .class_ 108), (1, u "java/lang/Enum$EnumDesc"), (2, .class_ 112), (0, u "java/lang/constant/Constable"), (0, .class_ 114), (0, u "java/lang/Comparable"), (0, .class_ 116), (0, u "java/io/Serializable")] 87

/-- java/lang/Enum -/
def k5 : Class := { plain "java/lang/Enum" (some 0) with
  accessFlags := 1057
  interfaces := #[2, 3, 4]
  cf := some (fileOf pool5 2 #[.nestMembers #[106]] #[] 1057 12 #[111, 113, 115] #[{ accessFlags := 18, nameIndex := 5, descriptorIndex := 6, attributes := #[] }, { accessFlags := 18, nameIndex := 9, descriptorIndex := 10, attributes := #[] }, { accessFlags := 2, nameIndex := 19, descriptorIndex := 10, attributes := #[] }])
  fields := #[{ name := "name", type := (.object "java/lang/String"), accessFlags := 18, slot := 0, constantValue := 0 }, { name := "ordinal", type := .int, accessFlags := 18, slot := 1, constantValue := 0 }, { name := "hash", type := .int, accessFlags := 2, slot := 2, constantValue := 0 }]
  methods := #[]
  instanceTypes := #[(.object "java/lang/String"), .int, .int]
  staticTypes := #[]
  resolved := Array.replicate 204 none
  statics := none }

def pool6 : Array CpInfo := pool [(1, .class_ 2), (0, u "com/example/inweave/inweave/description/DescriptionNamespace"), (0, .fieldref 1 4), (0, .nameAndType 5 6), (0, u "V1_0_0"), (0, u "Lcom/example/inweave/inweave/description/DescriptionNamespace;"), (2, u "V1_1_0"), (2, u "V1_2_0"), (2, u "V1_3_0"), (2, u "V1_4_0"), (2, u "V1_5_0"), (2, u "$VALUES"), (0, u "[Lcom/example/inweave/inweave/description/DescriptionNamespace;"), (6, .class_ 34), (1, u "java/lang/Enum"), (8, u "version"), (0, u "Ljava/lang/String;"), (18, u "ATTRIBUTES"), (0, u "Ljava/util/Map;"), (42, u "OPEN_ELEMENTS"), (0, u "Ljava/util/Set;"), (82, u "PREFIX"), (18, u "()Z"), (2, u "requiresNames")] 24

def k6c0 : Code := { maxStack := 2, maxLocals := 1, code := prog_15_method_12_code, exceptionTable := #[], attributes := #[] }
def k6m0 : Method := { name := "requiresNames", desc := "()Z", sig := { parameters := [], returnType := some .boolean }, accessFlags := 0, code := some k6c0 }
/-- com/example/inweave/inweave/description/DescriptionNamespace -/
def k6 : Class := { plain "com/example/inweave/inweave/description/DescriptionNamespace" (some 5) with
  accessFlags := 16433
  interfaces := #[]
  cf := some (fileOf pool6 1 #[] #[{ accessFlags := 0, nameIndex := 213, descriptorIndex := 210, attributes := #[] }] 16433 32 #[] #[{ accessFlags := 16409, nameIndex := 5, descriptorIndex := 6, attributes := #[] }, { accessFlags := 16409, nameIndex := 9, descriptorIndex := 6, attributes := #[] }, { accessFlags := 16409, nameIndex := 12, descriptorIndex := 6, attributes := #[] }, { accessFlags := 16409, nameIndex := 15, descriptorIndex := 6, attributes := #[] }, { accessFlags := 16409, nameIndex := 18, descriptorIndex := 6, attributes := #[] }, { accessFlags := 16409, nameIndex := 21, descriptorIndex := 6, attributes := #[] }, { accessFlags := 26, nameIndex := 191, descriptorIndex := 44, attributes := #[] }, { accessFlags := 26, nameIndex := 63, descriptorIndex := 64, attributes := #[] }, { accessFlags := 26, nameIndex := 107, descriptorIndex := 108, attributes := #[] }, { accessFlags := 18, nameIndex := 43, descriptorIndex := 44, attributes := #[] }, { accessFlags := 4122, nameIndex := 24, descriptorIndex := 25, attributes := #[] }])
  fields := #[{ name := "V1_0_0", type := (.object "com/example/inweave/inweave/description/DescriptionNamespace"), accessFlags := 16409, slot := 0, constantValue := 0 }, { name := "V1_1_0", type := (.object "com/example/inweave/inweave/description/DescriptionNamespace"), accessFlags := 16409, slot := 1, constantValue := 0 }, { name := "V1_2_0", type := (.object "com/example/inweave/inweave/description/DescriptionNamespace"), accessFlags := 16409, slot := 2, constantValue := 0 }, { name := "V1_3_0", type := (.object "com/example/inweave/inweave/description/DescriptionNamespace"), accessFlags := 16409, slot := 3, constantValue := 0 }, { name := "V1_4_0", type := (.object "com/example/inweave/inweave/description/DescriptionNamespace"), accessFlags := 16409, slot := 4, constantValue := 0 }, { name := "V1_5_0", type := (.object "com/example/inweave/inweave/description/DescriptionNamespace"), accessFlags := 16409, slot := 5, constantValue := 0 }, { name := "PREFIX", type := (.object "java/lang/String"), accessFlags := 26, slot := 6, constantValue := 0 }, { name := "ATTRIBUTES", type := (.object "java/util/Map"), accessFlags := 26, slot := 7, constantValue := 0 }, { name := "OPEN_ELEMENTS", type := (.object "java/util/Set"), accessFlags := 26, slot := 8, constantValue := 0 }, { name := "version", type := (.object "java/lang/String"), accessFlags := 18, slot := 3, constantValue := 0 }, { name := "$VALUES", type := (.array (.object "com/example/inweave/inweave/description/DescriptionNamespace")), accessFlags := 4122, slot := 9, constantValue := 0 }]
  methods := #[k6m0]
  instanceTypes := #[(.object "java/lang/String"), .int, .int, (.object "java/lang/String")]
  staticTypes := #[(.object "com/example/inweave/inweave/description/DescriptionNamespace"), (.object "com/example/inweave/inweave/description/DescriptionNamespace"), (.object "com/example/inweave/inweave/description/DescriptionNamespace"), (.object "com/example/inweave/inweave/description/DescriptionNamespace"), (.object "com/example/inweave/inweave/description/DescriptionNamespace"), (.object "com/example/inweave/inweave/description/DescriptionNamespace"), (.object "java/lang/String"), (.object "java/util/Map"), (.object "java/util/Set"), (.array (.object "com/example/inweave/inweave/description/DescriptionNamespace"))]
  resolved := Array.replicate 238 none
  statics := some 0 }

def pool7 : Array CpInfo := pool [(1, u "java/lang/Cloneable"), (0, .class_ 1), (0, u "java/lang/Object"), (0, .class_ 3)] 3

/-- java/lang/Cloneable -/
def k7 : Class := { plain "java/lang/Cloneable" (some 0) with
  accessFlags := 1537
  interfaces := #[]
  cf := some (fileOf pool7 2 #[] #[] 1537 4 #[] #[])
  fields := #[]
  methods := #[]
  instanceTypes := #[]
  staticTypes := #[]
  resolved := Array.replicate 8 none
  statics := none }

/-- the primitive byte -/
def k8 : Class := { plain "byte" none with kind := .primitive 'B', accessFlags := 0x411 }
/-- [B -/
def k9 : Class := { plain "[B" (some 0) with kind := .array 8 .byte, interfaces := #[7, 4], accessFlags := 1041 }

/-- the primitive int -/
def k10 : Class := { plain "int" none with kind := .primitive 'I', accessFlags := 0x411 }
/-- [I -/
def k11 : Class := { plain "[I" (some 0) with kind := .array 10 .int, interfaces := #[7, 4], accessFlags := 1041 }

def heap : Heap := #[{ cls := 6, slots := #[.ref 1, .ref 2, .ref 3, .ref 4, .ref 5, .ref 6, .null, .null, .null, .null], vm := .statics 6 },
  { cls := 6, slots := #[.null, .int 0, .int 0, .null], vm := .none },
  { cls := 6, slots := #[.null, .int 1, .int 0, .null], vm := .none },
  { cls := 6, slots := #[.null, .int 2, .int 0, .null], vm := .none },
  { cls := 6, slots := #[.null, .int 3, .int 0, .null], vm := .none },
  { cls := 6, slots := #[.null, .int 4, .int 0, .null], vm := .none },
  { cls := 6, slots := #[.null, .int 5, .int 0, .null], vm := .none }]
def classes : Array Class := #[k0, k1, k2, k3, k4, k5, k6, k7, k8, k9, k10, k11]
def interned : List (Array UInt16 × Addr) := []
def slotsUsed : Nat := 34
def theMethod : MethodId := ⟨1, 1⟩
def args0 : Array Value := #[.int 5]
def aboutOver (below : List Frame) : State where
  vm := { classes := classes, interned := interned.toArray }
  heap := heap
  slotsUsed := slotsUsed
  threads := #[{ frames := .invoking theMethod args0 :: below }]
def below0 : List Frame := [.native { method := ⟨0, 0⟩, args := #[] }]
def about1 : State := aboutOver below0
def p0 : Program := .bare "" "" ""
def e0 : Env := launch0.env 0 0 0
theorem w_frames : about1.frames = Frame.invoking theMethod args0 :: below0 := rfl
set_option maxRecDepth 65536 in
theorem w_args : argsFit about1.vm theMethod args0 = true := by decide +kernel
set_option maxRecDepth 65536 in
theorem w_heap : heapFits about1 = true := by decide +kernel
set_option maxRecDepth 65536 in
theorem w_runnable : about1.curStatus? = some .runnable := by decide +kernel
set_option maxRecDepth 65536 in
theorem w_alone : about1.alone = true := by decide +kernel
set_option maxRecDepth 65536 in
theorem w_named : about1.methodNamed? x = some theMethod := by decide +kernel
set_option maxRecDepth 65536 in
theorem w_hears : about1.hears theMethod below0 = true := by decide +kernel
set_option maxRecDepth 65536 in
theorem w_ripe : about1.ripe theMethod args0 below0 = true := by decide +kernel
theorem w_running : about1.status = .running := rfl
set_option maxRecDepth 65536 in
theorem w_room : about1.hasRoom e0.platform room_1 = true :=
  launch0.hasRoom_least _ room_1 (by decide +kernel) (by decide +kernel) (by decide +kernel) (by decide +kernel) (by decide +kernel) (by decide +kernel)
theorem allAtoms_all (ts : List Jvm.Cond) (a : Array Jvm.Value) (st : Jvm.State) : (allAtoms ts).before a st = ts.all (fun c => c.before a st) := by
  induction ts with
  | nil => rfl
  | cons c t ih =>
    show (Jvm.Cond.and c (allAtoms t)).before a st = _
    rw [Jvm.Cond.before_and, ih, List.all_cons]
def words1 : List Jvm.Cond := Jvm.Cond.code x code maxLocals ret :: tables_1
/-- a 'code' word, met by the world's own term for the bytes: nothing is compared byte by byte -/
theorem code_word {y : MethodName} {bytes : ByteArray} {mx : Nat} {rt : Option FieldType} {a : Array Value} {s : State} {m : MethodId} {meth : Method} {c : Code} (h1 : s.methodNamed? y = some m) (h2 : s.vm.method? m = some meth) (h3 : meth.code = some c) (h4 : c.code = bytes)
    (h5 : (c.maxLocals == mx && c.exceptionTable.isEmpty && decide (c.maxStack ≤ mostOperands) && decide (meth.sig.returnType = rt) && !meth.locks && decide (parseMethodDescriptor y.desc = some meth.sig)) = true) : (Jvm.Cond.code y bytes mx rt).before a s = true := by
  simp only [Bool.and_eq_true, beq_iff_eq, Bool.not_eq_true', decide_eq_true_eq] at h5
  obtain ⟨⟨⟨⟨⟨g1, g2⟩, g3⟩, g4⟩, g5⟩, g6⟩ := h5
  simp [Cond.before, Cond.holds, Cond.value, h1, h2, h3, h4, g1, g2, g3, g4, g5, g6]
def isCode : Jvm.Cond → Bool
  | .code _ _ _ _ => true
  | _ => false
theorem all_split {L : List Jvm.Cond} {P : Jvm.Cond → Bool} (h1 : L.all (fun c => isCode c || P c) = true) (h2 : ∀ c ∈ L.filter isCode, P c = true) : L.all P = true := by
  refine List.all_eq_true.mpr fun c hc => ?_
  have h := List.all_eq_true.mp h1 c hc
  rcases Bool.eq_false_or_eq_true (isCode c) with hi | hi
  · exact h2 c (List.mem_filter.mpr ⟨hc, hi⟩)
  · simpa [hi] using h
set_option maxRecDepth 65536 in
theorem w_c0 : (Jvm.Cond.code x code maxLocals ret).before args0 about1 = true := code_word (m := ⟨1, 1⟩) (meth := k1m1) (c := k1c1) (by decide +kernel) rfl rfl rfl (by decide +kernel)
set_option maxRecDepth 65536 in
theorem w_c1 : (Jvm.Cond.code ({ cls := "com/example/inweave/inweave/description/DescriptionNamespaceRequiresNamesPinLaw", name := "pick", desc := "(I)Lcom/example/inweave/inweave/description/DescriptionNamespace;" } : Jvm.MethodName) method_3_code (1 : Nat) (Option.some (Jvm.ClassFile.FieldType.object "com/example/inweave/inweave/description/DescriptionNamespace"))).before args0 about1 = true := code_word (m := ⟨1, 2⟩) (meth := k1m2) (c := k1c2) (by decide +kernel) rfl rfl rfl (by decide +kernel)
set_option maxRecDepth 65536 in
theorem w_c2 : (Jvm.Cond.code ({ cls := "com/example/inweave/inweave/description/DescriptionNamespace", name := "requiresNames", desc := "()Z" } : Jvm.MethodName) prog_15_method_12_code (1 : Nat) (Option.some Jvm.ClassFile.FieldType.boolean)).before args0 about1 = true := code_word (m := ⟨6, 0⟩) (meth := k6m0) (c := k6c0) (by decide +kernel) rfl rfl rfl (by decide +kernel)
def codes1 : List Jvm.Cond := [Jvm.Cond.code x code maxLocals ret, Jvm.Cond.code ({ cls := "com/example/inweave/inweave/description/DescriptionNamespaceRequiresNamesPinLaw", name := "pick", desc := "(I)Lcom/example/inweave/inweave/description/DescriptionNamespace;" } : Jvm.MethodName) method_3_code (1 : Nat) (Option.some (Jvm.ClassFile.FieldType.object "com/example/inweave/inweave/description/DescriptionNamespace")), Jvm.Cond.code ({ cls := "com/example/inweave/inweave/description/DescriptionNamespace", name := "requiresNames", desc := "()Z" } : Jvm.MethodName) prog_15_method_12_code (1 : Nat) (Option.some Jvm.ClassFile.FieldType.boolean)]
set_option maxRecDepth 65536 in
theorem codes_eq : words1.filter isCode = codes1 := rfl
theorem w_codes : ∀ c ∈ words1.filter isCode, c.before args0 about1 = true := by
  rw [codes_eq]
  intro c hc
  simp only [codes1, List.mem_cons, List.not_mem_nil, or_false] at hc
  rcases hc with rfl | rfl | rfl
  · exact w_c0
  · exact w_c1
  · exact w_c2
set_option maxRecDepth 65536 in
theorem w_t1 : (words1.take 24).all (fun c => isCode c || c.before args0 about1) = true := by decide +kernel
set_option maxRecDepth 65536 in
theorem w_t2 : (words1.drop 24).all (fun c => isCode c || c.before args0 about1) = true := by decide +kernel
theorem w_tables : (allAtoms (Jvm.Cond.code x code maxLocals ret :: tables_1)).before args0 about1 = true := by
  rw [allAtoms_all]
  show words1.all (fun c => c.before args0 about1) = true
  refine all_split ?_ w_codes
  rw [← List.take_append_drop 24 words1, List.all_append, w_t1, w_t2]
  rfl
set_option maxRecDepth 65536 in
theorem w_case : (Jvm.Cond.and given_1 narrow_1).before args0 about1 = true := by decide +kernel
theorem w_applies : (headSpec (Jvm.Cond.code x code maxLocals ret :: tables_1) room_1).applies x e0.platform about1 = true :=
  (Spec.applies_iff w_frames).mpr ⟨w_running, w_runnable, w_alone, w_named, w_hears, w_ripe, w_room, w_tables⟩
theorem atStart : AtStart classFile x code maxLocals ret World_1 tables_1 room_1 Calls_1 rest_1 Pre_1 launch0 p0 e0 about1 theMethod args0 below0 :=
  ⟨lists_1, trivial, launch0.admits_env _ _ _, launch0.least_env, fairChoices_fair.cas, fairChoices_fair.clock, w_frames, w_args, w_heap, w_applies, trivial, trivial, w_case⟩
end start1
theorem witness_1 : WitnessClaimed_1 := ⟨start1.p0, start1.e0, start1.about1, start1.theMethod, start1.args0, start1.below0, start1.atStart⟩
end Jvm.Pilot.@@N@@
