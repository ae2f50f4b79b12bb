import JvmDerived
import JvmDerived.Pilot.@@N@@Statement
import JvmDerived.Pilot.@@N@@Code
set_option linter.unusedVariables false
set_option linter.unusedSimpArgs false
namespace Jvm.Pilot.@@N@@
open Jvm Jvm.ClassFile Sem Op Lib Jvm.Free Jvm.Stand Jvm.LawKit Jvm.RoadKit Bundle Jvm.Pilot.@@N@@.Jvm.D
def own_pickA (i : Int32) (v0 v1 v2 v3 v4 v5 v6 v7 v8 : Addr) : Addr := if i = 0 then v0 else if i = 1 then v1 else if i = 2 then v2 else if i = 3 then v3 else if i = 4 then v4 else if i = 5 then v5 else if i = 6 then v6 else if i = 7 then v7 else v8
def own_runs (i : Int32) : Int32 := if i = 0 then 1 else if i = 1 then 1 else 0
theorem dp_0 : decode method_3_code 0 = .ok (.iload_n 0, 1) := by decide +kernel
theorem dp_1 : decode method_3_code 1 = .ok (.ifCond .ne 7, 3) := by decide +kernel
theorem dp_4 : decode method_3_code 4 = .ok (.getstatic 24, 3) := by decide +kernel
theorem dp_7 : decode method_3_code 7 = .ok (.areturn, 1) := by decide +kernel
theorem dp_8 : decode method_3_code 8 = .ok (.iload_n 0, 1) := by decide +kernel
theorem dp_9 : decode method_3_code 9 = .ok (.iconst 1, 1) := by decide +kernel
theorem dp_10 : decode method_3_code 10 = .ok (.if_icmp .ne 7, 3) := by decide +kernel
theorem dp_13 : decode method_3_code 13 = .ok (.getstatic 28, 3) := by decide +kernel
theorem dp_16 : decode method_3_code 16 = .ok (.areturn, 1) := by decide +kernel
theorem dp_17 : decode method_3_code 17 = .ok (.iload_n 0, 1) := by decide +kernel
theorem dp_18 : decode method_3_code 18 = .ok (.iconst 2, 1) := by decide +kernel
theorem dp_19 : decode method_3_code 19 = .ok (.if_icmp .ne 7, 3) := by decide +kernel
theorem dp_22 : decode method_3_code 22 = .ok (.getstatic 31, 3) := by decide +kernel
theorem dp_25 : decode method_3_code 25 = .ok (.areturn, 1) := by decide +kernel
theorem dp_26 : decode method_3_code 26 = .ok (.iload_n 0, 1) := by decide +kernel
theorem dp_27 : decode method_3_code 27 = .ok (.iconst 3, 1) := by decide +kernel
theorem dp_28 : decode method_3_code 28 = .ok (.if_icmp .ne 7, 3) := by decide +kernel
theorem dp_31 : decode method_3_code 31 = .ok (.getstatic 34, 3) := by decide +kernel
theorem dp_34 : decode method_3_code 34 = .ok (.areturn, 1) := by decide +kernel
theorem dp_35 : decode method_3_code 35 = .ok (.iload_n 0, 1) := by decide +kernel
theorem dp_36 : decode method_3_code 36 = .ok (.iconst 4, 1) := by decide +kernel
theorem dp_37 : decode method_3_code 37 = .ok (.if_icmp .ne 7, 3) := by decide +kernel
theorem dp_40 : decode method_3_code 40 = .ok (.getstatic 37, 3) := by decide +kernel
theorem dp_43 : decode method_3_code 43 = .ok (.areturn, 1) := by decide +kernel
theorem dp_44 : decode method_3_code 44 = .ok (.iload_n 0, 1) := by decide +kernel
theorem dp_45 : decode method_3_code 45 = .ok (.iconst 5, 1) := by decide +kernel
theorem dp_46 : decode method_3_code 46 = .ok (.if_icmp .ne 7, 3) := by decide +kernel
theorem dp_49 : decode method_3_code 49 = .ok (.getstatic 40, 3) := by decide +kernel
theorem dp_52 : decode method_3_code 52 = .ok (.areturn, 1) := by decide +kernel
theorem dp_53 : decode method_3_code 53 = .ok (.iload_n 0, 1) := by decide +kernel
theorem dp_54 : decode method_3_code 54 = .ok (.bipush 6, 2) := by decide +kernel
theorem dp_56 : decode method_3_code 56 = .ok (.if_icmp .ne 7, 3) := by decide +kernel
theorem dp_59 : decode method_3_code 59 = .ok (.getstatic 43, 3) := by decide +kernel
theorem dp_62 : decode method_3_code 62 = .ok (.areturn, 1) := by decide +kernel
theorem dp_63 : decode method_3_code 63 = .ok (.iload_n 0, 1) := by decide +kernel
theorem dp_64 : decode method_3_code 64 = .ok (.bipush 7, 2) := by decide +kernel
theorem dp_66 : decode method_3_code 66 = .ok (.if_icmp .ne 7, 3) := by decide +kernel
theorem dp_69 : decode method_3_code 69 = .ok (.getstatic 46, 3) := by decide +kernel
theorem dp_72 : decode method_3_code 72 = .ok (.areturn, 1) := by decide +kernel
theorem dp_73 : decode method_3_code 73 = .ok (.getstatic 49, 3) := by decide +kernel
theorem dp_76 : decode method_3_code 76 = .ok (.areturn, 1) := by decide +kernel
theorem ds_0 : decode method_4_code 0 = .ok (.iload_n 0, 1) := by decide +kernel
theorem ds_1 : decode method_4_code 1 = .ok (.ifCond .ne 5, 3) := by decide +kernel
theorem ds_4 : decode method_4_code 4 = .ok (.iconst 1, 1) := by decide +kernel
theorem ds_5 : decode method_4_code 5 = .ok (.ireturn, 1) := by decide +kernel
theorem ds_6 : decode method_4_code 6 = .ok (.iload_n 0, 1) := by decide +kernel
theorem ds_7 : decode method_4_code 7 = .ok (.iconst 1, 1) := by decide +kernel
theorem ds_8 : decode method_4_code 8 = .ok (.if_icmp .ne 5, 3) := by decide +kernel
theorem ds_11 : decode method_4_code 11 = .ok (.iconst 1, 1) := by decide +kernel
theorem ds_12 : decode method_4_code 12 = .ok (.ireturn, 1) := by decide +kernel
theorem ds_13 : decode method_4_code 13 = .ok (.iload_n 0, 1) := by decide +kernel
theorem ds_14 : decode method_4_code 14 = .ok (.iconst 2, 1) := by decide +kernel
theorem ds_15 : decode method_4_code 15 = .ok (.if_icmp .ne 5, 3) := by decide +kernel
theorem ds_18 : decode method_4_code 18 = .ok (.iconst 0, 1) := by decide +kernel
theorem ds_19 : decode method_4_code 19 = .ok (.ireturn, 1) := by decide +kernel
theorem ds_20 : decode method_4_code 20 = .ok (.iload_n 0, 1) := by decide +kernel
theorem ds_21 : decode method_4_code 21 = .ok (.iconst 3, 1) := by decide +kernel
theorem ds_22 : decode method_4_code 22 = .ok (.if_icmp .ne 5, 3) := by decide +kernel
theorem ds_25 : decode method_4_code 25 = .ok (.iconst 0, 1) := by decide +kernel
theorem ds_26 : decode method_4_code 26 = .ok (.ireturn, 1) := by decide +kernel
theorem ds_27 : decode method_4_code 27 = .ok (.iload_n 0, 1) := by decide +kernel
theorem ds_28 : decode method_4_code 28 = .ok (.iconst 4, 1) := by decide +kernel
theorem ds_29 : decode method_4_code 29 = .ok (.if_icmp .ne 5, 3) := by decide +kernel
theorem ds_32 : decode method_4_code 32 = .ok (.iconst 0, 1) := by decide +kernel
theorem ds_33 : decode method_4_code 33 = .ok (.ireturn, 1) := by decide +kernel
theorem ds_34 : decode method_4_code 34 = .ok (.iload_n 0, 1) := by decide +kernel
theorem ds_35 : decode method_4_code 35 = .ok (.iconst 5, 1) := by decide +kernel
theorem ds_36 : decode method_4_code 36 = .ok (.if_icmp .ne 5, 3) := by decide +kernel
theorem ds_39 : decode method_4_code 39 = .ok (.iconst 0, 1) := by decide +kernel
theorem ds_40 : decode method_4_code 40 = .ok (.ireturn, 1) := by decide +kernel
theorem ds_41 : decode method_4_code 41 = .ok (.iload_n 0, 1) := by decide +kernel
theorem ds_42 : decode method_4_code 42 = .ok (.bipush 6, 2) := by decide +kernel
theorem ds_44 : decode method_4_code 44 = .ok (.if_icmp .ne 5, 3) := by decide +kernel
theorem ds_47 : decode method_4_code 47 = .ok (.iconst 0, 1) := by decide +kernel
theorem ds_48 : decode method_4_code 48 = .ok (.ireturn, 1) := by decide +kernel
theorem ds_49 : decode method_4_code 49 = .ok (.iload_n 0, 1) := by decide +kernel
theorem ds_50 : decode method_4_code 50 = .ok (.bipush 7, 2) := by decide +kernel
theorem ds_52 : decode method_4_code 52 = .ok (.if_icmp .ne 5, 3) := by decide +kernel
theorem ds_55 : decode method_4_code 55 = .ok (.iconst 0, 1) := by decide +kernel
theorem ds_56 : decode method_4_code 56 = .ok (.ireturn, 1) := by decide +kernel
theorem ds_57 : decode method_4_code 57 = .ok (.iconst 0, 1) := by decide +kernel
theorem ds_58 : decode method_4_code 58 = .ok (.ireturn, 1) := by decide +kernel
theorem dr_0 : decode prog_100_method_4_code 0 = .ok (.aload_n 0, 1) := by decide +kernel
theorem dr_1 : decode prog_100_method_4_code 1 = .ok (.getstatic 3, 3) := by decide +kernel
theorem dr_4 : decode prog_100_method_4_code 4 = .ok (.if_acmp .eq 10, 3) := by decide +kernel
theorem dr_7 : decode prog_100_method_4_code 7 = .ok (.aload_n 0, 1) := by decide +kernel
theorem dr_8 : decode prog_100_method_4_code 8 = .ok (.getstatic 7, 3) := by decide +kernel
theorem dr_11 : decode prog_100_method_4_code 11 = .ok (.if_acmp .ne 7, 3) := by decide +kernel
theorem dr_14 : decode prog_100_method_4_code 14 = .ok (.iconst 1, 1) := by decide +kernel
theorem dr_15 : decode prog_100_method_4_code 15 = .ok (.goto 4, 3) := by decide +kernel
theorem dr_18 : decode prog_100_method_4_code 18 = .ok (.iconst 0, 1) := by decide +kernel
theorem dr_19 : decode prog_100_method_4_code 19 = .ok (.ireturn, 1) := by decide +kernel
theorem own_pn0 : plainName "com/example/firm_demarcation/firmdemarcation/transactions/StatusIsRunningPinLaw" = true := by first | (simp [plainName, overriddenIn]; done) | decide +kernel
theorem own_pn1 : plainName "com/example/firm_demarcation/firmdemarcation/transactions/Transaction$Status" = true := by first | (simp [plainName, overriddenIn]; done) | decide +kernel
theorem own_pd0 : parseMethodDescriptor "(I)Lcom/example/firm_demarcation/firmdemarcation/transactions/Transaction$Status;" = some ⟨[.int], some (.object "com/example/firm_demarcation/firmdemarcation/transactions/Transaction$Status")⟩ := by decide +kernel
theorem own_pd1 : parseMethodDescriptor "(I)Z" = some ⟨[.int], some .boolean⟩ := by decide +kernel
theorem own_pd2 : parseMethodDescriptor "()Z" = some ⟨[], some .boolean⟩ := by decide +kernel
def own_Qpick (Z : State) (i : Int32) (v0 v1 v2 v3 v4 v5 v6 v7 v8 : Addr) (h0 : Heap) (n0 : Nat) (v : Option Value) (h : Heap) (L : List Loc) : Prop := v = some (.ref (own_pickA i v0 v1 v2 v3 v4 v5 v6 v7 v8)) ∧ Fr n0 L ∧ h = h0
theorem own_pick_ef (m : MethodId) (x0 : Int32) : entryFrame m #[(.int x0)] 1 = mkF m 0 #[.val (.int x0)] [] := by first | (simp [entryFrame, mkF, argsToLocals, Value.category]; done) | rfl
set_option maxRecDepth 65536 in
set_option maxHeartbeats 40000000 in
theorem own_pick (l : Launch) (Z : State) (a0 : Array Value) (hw : ∀ d ∈ tables_1, d.before a0 Z = true) (ws : List Jvm.Cond) (i : Int32) (v0 v1 v2 v3 v4 v5 v6 v7 v8 : Addr) (h0 : Heap) (n0 : Nat) (Z0 : n0 ≤ h0.size) (S0 : Sta Z h0 "com/example/firm_demarcation/firmdemarcation/transactions/Transaction$Status" "ACTIVE" "Lcom/example/firm_demarcation/firmdemarcation/transactions/Transaction$Status;" (.ref v0)) (S1 : Sta Z h0 "com/example/firm_demarcation/firmdemarcation/transactions/Transaction$Status" "MARKED_ROLLBACK_ONLY" "Lcom/example/firm_demarcation/firmdemarcation/transactions/Transaction$Status;" (.ref v1)) (S2 : Sta Z h0 "com/example/firm_demarcation/firmdemarcation/transactions/Transaction$Status" "PREPARING" "Lcom/example/firm_demarcation/firmdemarcation/transactions/Transaction$Status;" (.ref v2)) (S3 : Sta Z h0 "com/example/firm_demarcation/firmdemarcation/transactions/Transaction$Status" "PREPARED" "Lcom/example/firm_demarcation/firmdemarcation/transactions/Transaction$Status;" (.ref v3)) (S4 : Sta Z h0 "com/example/firm_demarcation/firmdemarcation/transactions/Transaction$Status" "COMMITTING" "Lcom/example/firm_demarcation/firmdemarcation/transactions/Transaction$Status;" (.ref v4)) (S5 : Sta Z h0 "com/example/firm_demarcation/firmdemarcation/transactions/Transaction$Status" "ROLLING_BACK" "Lcom/example/firm_demarcation/firmdemarcation/transactions/Transaction$Status;" (.ref v5)) (S6 : Sta Z h0 "com/example/firm_demarcation/firmdemarcation/transactions/Transaction$Status" "COMMITTED" "Lcom/example/firm_demarcation/firmdemarcation/transactions/Transaction$Status;" (.ref v6)) (S7 : Sta Z h0 "com/example/firm_demarcation/firmdemarcation/transactions/Transaction$Status" "ROLLED_BACK" "Lcom/example/firm_demarcation/firmdemarcation/transactions/Transaction$Status;" (.ref v7)) (S8 : Sta Z h0 "com/example/firm_demarcation/firmdemarcation/transactions/Transaction$Status" "UNKNOWN" "Lcom/example/firm_demarcation/firmdemarcation/transactions/Transaction$Status;" (.ref v8)) :
    MetFree l (⟨"com/example/firm_demarcation/firmdemarcation/transactions/StatusIsRunningPinLaw", "pick", "(I)Lcom/example/firm_demarcation/firmdemarcation/transactions/Transaction$Status;"⟩ : MethodName) (head1 (Jvm.Cond.code (⟨"com/example/firm_demarcation/firmdemarcation/transactions/StatusIsRunningPinLaw", "pick", "(I)Lcom/example/firm_demarcation/firmdemarcation/transactions/Transaction$Status;"⟩ : MethodName) method_3_code 1 (some (.object "com/example/firm_demarcation/firmdemarcation/transactions/Transaction$Status")) :: ws) ({ frames := 0, cells := 0, slots := 0, locals := 0 } : Room)) (fun a U => a = #[(.int i)] ∧ Z.Warmed39 U.vm ∧ U.heap = h0) (fun _ _ _ _ _ => True) (fun _ U o U' => ∃ v L, o = .returned v ∧ own_Qpick Z i v0 v1 v2 v3 v4 v5 v6 v7 v8 h0 n0 v U'.heap L ∧ FrameEnd U o U' L ({ frames := 0, cells := 0, slots := 0, locals := 0 } : Room).cells ({ frames := 0, cells := 0, slots := 0, locals := 0 } : Room).slots) := by
  refine MetFree.of_bodySF (plainFor_of_name own_pn0) hisR ?_
  intro p e s m args below meth c s₁ Bd hml0 hP hK
  obtain ⟨rfl, hZ, hh⟩ := hP
  have hx := Bd.exec
  have hby := Bd.bytes
  have hml : c.maxLocals = 1 := hml0
  have hown : s.vm.findClass "com/example/firm_demarcation/firmdemarcation/transactions/StatusIsRunningPinLaw" = some m.cls := findClass_of_methodNamed Bd.named
  have hnm := (name_of_methodNamed Bd.named Bd.method).1
  have X0 : Stand p l e ({ frames := 0, cells := 0, slots := 0, locals := 0 } : Room) s m #[(.int i)] below meth c s₁ [] 0 0 := Stand.of_body Bd
  have e0 : s₁.heap = h0 := by rw [← hh, Bd.state]; rfl
  have N0 := Fr.nil n0
  have A0 : ∀ t, Steps p.tables e below (s₁.setTop (mkF m 0 #[.val (.int i)] [])) t → Steps p.tables e below (s₁.setTop (entryFrame m #[(.int i)] 1)) t := fun t k => castTop (own_pick_ef m i) k
  have A1 : ∀ t, Steps p.tables e below (s₁.setTop (mkF m 1 #[.val (.int i)] [(.int i)])) t → Steps p.tables e below (s₁.setTop (entryFrame m #[(.int i)] 1)) t := by
    intro t k
    refine A0 _ ?_
    refine XS.iloadN X0.here hx rfl (hb hby dp_0) rfl ?_
    show Steps p.tables e below (s₁.setTop (mkF m 1 #[.val (.int i)] [(.int i)])) _
    exact k
  by_cases hc2 : i = (0 : Int32)
  · have A3 : ∀ t, Steps p.tables e below (s₁.setTop (mkF m 4 #[.val (.int i)] [])) t → Steps p.tables e below (s₁.setTop (entryFrame m #[(.int i)] 1)) t := by
      intro t k
      refine A1 _ ?_
      refine XS.ifNo X0.here hx rfl (hb hby dp_1) rfl ((if0 _ _).trans (teq hc2).2) ?_
      show Steps p.tables e below (s₁.setTop (mkF m 4 #[.val (.int i)] [])) _
      exact k
    obtain ⟨T4, X4, e4, st4⟩ := getS2 X0 hx hZ hown (host := "") (Or.inl (hw _ (List.mem_of_getElem? (i := 5) rfl))) Via.refl e0 S0 (g := (mkF m 4 #[.val (.int i)] [])) rfl (hb hby dp_4)
    have A5 : ∀ t, Steps p.tables e below (T4.setTop (mkF m 7 #[.val (.int i)] [(.ref v0)])) t → Steps p.tables e below (s₁.setTop (entryFrame m #[(.int i)] 1)) t := by
      intro t k
      refine A3 _ ?_
      refine st4 _ ?_
      show Steps p.tables e below (T4.setTop (mkF m 7 #[.val (.int i)] [(.ref v0)])) _
      exact k
    obtain ⟨fs, hr, hrun, hended, hW, hsame⟩ := X4.leave (v := some (.ref v0)) (fun h => by rw [Bd.returns] at h; cases h)
    refine ⟨_, _, A5 _ ?_, hrun, hended, _, _, rfl, ?_, ⟨_, rfl⟩, hW, hsame.mono (by decide) (by decide)⟩
    · exact retOut X4 hx Bd.returns rfl (Or.inr (Or.inr (Or.inr (Or.inr ⟨rfl, rfl, rfl⟩)))) (hb hby dp_7) hr
    · show own_Qpick Z i v0 v1 v2 v3 v4 v5 v6 v7 v8 h0 n0 _ T4.heap _
      rw [e4]
      exact ⟨by simp [own_pickA, hc2], N0, rfl⟩
  · have A6 : ∀ t, Steps p.tables e below (s₁.setTop (mkF m 10 #[.val (.int i)] [(.int (1 : Int32)), (.int i)])) t → Steps p.tables e below (s₁.setTop (entryFrame m #[(.int i)] 1)) t := by
      intro t k
      refine A1 _ ?_
      refine XS.ifYes X0.here hx rfl (pc0 := 1) (pc' := 8) rfl (hb hby dp_1) rfl ((if0 _ _).trans (feq hc2).2) (by decide) (by decide) ?_
      show Steps p.tables e below (s₁.setTop (mkF m 8 #[.val (.int i)] [])) _
      refine XS.iloadN X0.here hx rfl (hb hby dp_8) rfl ?_
      show Steps p.tables e below (s₁.setTop (mkF m 9 #[.val (.int i)] [(.int i)])) _
      refine XS.iconst X0.here hx rfl (hb hby dp_9) ?_
      show Steps p.tables e below (s₁.setTop (mkF m 10 #[.val (.int i)] [(.int (1 : Int32)), (.int i)])) _
      exact k
    by_cases hc7 : i = (1 : Int32)
    · have A8 : ∀ t, Steps p.tables e below (s₁.setTop (mkF m 13 #[.val (.int i)] [])) t → Steps p.tables e below (s₁.setTop (entryFrame m #[(.int i)] 1)) t := by
        intro t k
        refine A6 _ ?_
        refine XS.icmpNo X0.here hx rfl (hb hby dp_10) rfl (teq hc7).2 ?_
        show Steps p.tables e below (s₁.setTop (mkF m 13 #[.val (.int i)] [])) _
        exact k
      obtain ⟨T9, X9, e9, st9⟩ := getS2 X0 hx hZ hown (host := "") (Or.inl (hw _ (List.mem_of_getElem? (i := 23) rfl))) Via.refl e0 S1 (g := (mkF m 13 #[.val (.int i)] [])) rfl (hb hby dp_13)
      have A10 : ∀ t, Steps p.tables e below (T9.setTop (mkF m 16 #[.val (.int i)] [(.ref v1)])) t → Steps p.tables e below (s₁.setTop (entryFrame m #[(.int i)] 1)) t := by
        intro t k
        refine A8 _ ?_
        refine st9 _ ?_
        show Steps p.tables e below (T9.setTop (mkF m 16 #[.val (.int i)] [(.ref v1)])) _
        exact k
      obtain ⟨fs, hr, hrun, hended, hW, hsame⟩ := X9.leave (v := some (.ref v1)) (fun h => by rw [Bd.returns] at h; cases h)
      refine ⟨_, _, A10 _ ?_, hrun, hended, _, _, rfl, ?_, ⟨_, rfl⟩, hW, hsame.mono (by decide) (by decide)⟩
      · exact retOut X9 hx Bd.returns rfl (Or.inr (Or.inr (Or.inr (Or.inr ⟨rfl, rfl, rfl⟩)))) (hb hby dp_16) hr
      · show own_Qpick Z i v0 v1 v2 v3 v4 v5 v6 v7 v8 h0 n0 _ T9.heap _
        rw [e9]
        exact ⟨by simp [own_pickA, hc2, hc7], N0, rfl⟩
    · have A11 : ∀ t, Steps p.tables e below (s₁.setTop (mkF m 19 #[.val (.int i)] [(.int (2 : Int32)), (.int i)])) t → Steps p.tables e below (s₁.setTop (entryFrame m #[(.int i)] 1)) t := by
        intro t k
        refine A6 _ ?_
        refine XS.icmpYes X0.here hx rfl (pc0 := 10) (pc' := 17) rfl (hb hby dp_10) rfl (feq hc7).2 (by decide) (by decide) ?_
        show Steps p.tables e below (s₁.setTop (mkF m 17 #[.val (.int i)] [])) _
        refine XS.iloadN X0.here hx rfl (hb hby dp_17) rfl ?_
        show Steps p.tables e below (s₁.setTop (mkF m 18 #[.val (.int i)] [(.int i)])) _
        refine XS.iconst X0.here hx rfl (hb hby dp_18) ?_
        show Steps p.tables e below (s₁.setTop (mkF m 19 #[.val (.int i)] [(.int (2 : Int32)), (.int i)])) _
        exact k
      by_cases hc12 : i = (2 : Int32)
      · have A13 : ∀ t, Steps p.tables e below (s₁.setTop (mkF m 22 #[.val (.int i)] [])) t → Steps p.tables e below (s₁.setTop (entryFrame m #[(.int i)] 1)) t := by
          intro t k
          refine A11 _ ?_
          refine XS.icmpNo X0.here hx rfl (hb hby dp_19) rfl (teq hc12).2 ?_
          show Steps p.tables e below (s₁.setTop (mkF m 22 #[.val (.int i)] [])) _
          exact k
        obtain ⟨T14, X14, e14, st14⟩ := getS2 X0 hx hZ hown (host := "") (Or.inl (hw _ (List.mem_of_getElem? (i := 21) rfl))) Via.refl e0 S2 (g := (mkF m 22 #[.val (.int i)] [])) rfl (hb hby dp_22)
        have A15 : ∀ t, Steps p.tables e below (T14.setTop (mkF m 25 #[.val (.int i)] [(.ref v2)])) t → Steps p.tables e below (s₁.setTop (entryFrame m #[(.int i)] 1)) t := by
          intro t k
          refine A13 _ ?_
          refine st14 _ ?_
          show Steps p.tables e below (T14.setTop (mkF m 25 #[.val (.int i)] [(.ref v2)])) _
          exact k
        obtain ⟨fs, hr, hrun, hended, hW, hsame⟩ := X14.leave (v := some (.ref v2)) (fun h => by rw [Bd.returns] at h; cases h)
        refine ⟨_, _, A15 _ ?_, hrun, hended, _, _, rfl, ?_, ⟨_, rfl⟩, hW, hsame.mono (by decide) (by decide)⟩
        · exact retOut X14 hx Bd.returns rfl (Or.inr (Or.inr (Or.inr (Or.inr ⟨rfl, rfl, rfl⟩)))) (hb hby dp_25) hr
        · show own_Qpick Z i v0 v1 v2 v3 v4 v5 v6 v7 v8 h0 n0 _ T14.heap _
          rw [e14]
          exact ⟨by simp [own_pickA, hc2, hc7, hc12], N0, rfl⟩
      · have A16 : ∀ t, Steps p.tables e below (s₁.setTop (mkF m 28 #[.val (.int i)] [(.int (3 : Int32)), (.int i)])) t → Steps p.tables e below (s₁.setTop (entryFrame m #[(.int i)] 1)) t := by
          intro t k
          refine A11 _ ?_
          refine XS.icmpYes X0.here hx rfl (pc0 := 19) (pc' := 26) rfl (hb hby dp_19) rfl (feq hc12).2 (by decide) (by decide) ?_
          show Steps p.tables e below (s₁.setTop (mkF m 26 #[.val (.int i)] [])) _
          refine XS.iloadN X0.here hx rfl (hb hby dp_26) rfl ?_
          show Steps p.tables e below (s₁.setTop (mkF m 27 #[.val (.int i)] [(.int i)])) _
          refine XS.iconst X0.here hx rfl (hb hby dp_27) ?_
          show Steps p.tables e below (s₁.setTop (mkF m 28 #[.val (.int i)] [(.int (3 : Int32)), (.int i)])) _
          exact k
        by_cases hc17 : i = (3 : Int32)
        · have A18 : ∀ t, Steps p.tables e below (s₁.setTop (mkF m 31 #[.val (.int i)] [])) t → Steps p.tables e below (s₁.setTop (entryFrame m #[(.int i)] 1)) t := by
            intro t k
            refine A16 _ ?_
            refine XS.icmpNo X0.here hx rfl (hb hby dp_28) rfl (teq hc17).2 ?_
            show Steps p.tables e below (s₁.setTop (mkF m 31 #[.val (.int i)] [])) _
            exact k
          obtain ⟨T19, X19, e19, st19⟩ := getS2 X0 hx hZ hown (host := "") (Or.inl (hw _ (List.mem_of_getElem? (i := 17) rfl))) Via.refl e0 S3 (g := (mkF m 31 #[.val (.int i)] [])) rfl (hb hby dp_31)
          have A20 : ∀ t, Steps p.tables e below (T19.setTop (mkF m 34 #[.val (.int i)] [(.ref v3)])) t → Steps p.tables e below (s₁.setTop (entryFrame m #[(.int i)] 1)) t := by
            intro t k
            refine A18 _ ?_
            refine st19 _ ?_
            show Steps p.tables e below (T19.setTop (mkF m 34 #[.val (.int i)] [(.ref v3)])) _
            exact k
          obtain ⟨fs, hr, hrun, hended, hW, hsame⟩ := X19.leave (v := some (.ref v3)) (fun h => by rw [Bd.returns] at h; cases h)
          refine ⟨_, _, A20 _ ?_, hrun, hended, _, _, rfl, ?_, ⟨_, rfl⟩, hW, hsame.mono (by decide) (by decide)⟩
          · exact retOut X19 hx Bd.returns rfl (Or.inr (Or.inr (Or.inr (Or.inr ⟨rfl, rfl, rfl⟩)))) (hb hby dp_34) hr
          · show own_Qpick Z i v0 v1 v2 v3 v4 v5 v6 v7 v8 h0 n0 _ T19.heap _
            rw [e19]
            exact ⟨by simp [own_pickA, hc2, hc7, hc12, hc17], N0, rfl⟩
        · have A21 : ∀ t, Steps p.tables e below (s₁.setTop (mkF m 37 #[.val (.int i)] [(.int (4 : Int32)), (.int i)])) t → Steps p.tables e below (s₁.setTop (entryFrame m #[(.int i)] 1)) t := by
            intro t k
            refine A16 _ ?_
            refine XS.icmpYes X0.here hx rfl (pc0 := 28) (pc' := 35) rfl (hb hby dp_28) rfl (feq hc17).2 (by decide) (by decide) ?_
            show Steps p.tables e below (s₁.setTop (mkF m 35 #[.val (.int i)] [])) _
            refine XS.iloadN X0.here hx rfl (hb hby dp_35) rfl ?_
            show Steps p.tables e below (s₁.setTop (mkF m 36 #[.val (.int i)] [(.int i)])) _
            refine XS.iconst X0.here hx rfl (hb hby dp_36) ?_
            show Steps p.tables e below (s₁.setTop (mkF m 37 #[.val (.int i)] [(.int (4 : Int32)), (.int i)])) _
            exact k
          by_cases hc22 : i = (4 : Int32)
          · have A23 : ∀ t, Steps p.tables e below (s₁.setTop (mkF m 40 #[.val (.int i)] [])) t → Steps p.tables e below (s₁.setTop (entryFrame m #[(.int i)] 1)) t := by
              intro t k
              refine A21 _ ?_
              refine XS.icmpNo X0.here hx rfl (hb hby dp_37) rfl (teq hc22).2 ?_
              show Steps p.tables e below (s₁.setTop (mkF m 40 #[.val (.int i)] [])) _
              exact k
            obtain ⟨T24, X24, e24, st24⟩ := getS2 X0 hx hZ hown (host := "") (Or.inl (hw _ (List.mem_of_getElem? (i := 26) rfl))) Via.refl e0 S4 (g := (mkF m 40 #[.val (.int i)] [])) rfl (hb hby dp_40)
            have A25 : ∀ t, Steps p.tables e below (T24.setTop (mkF m 43 #[.val (.int i)] [(.ref v4)])) t → Steps p.tables e below (s₁.setTop (entryFrame m #[(.int i)] 1)) t := by
              intro t k
              refine A23 _ ?_
              refine st24 _ ?_
              show Steps p.tables e below (T24.setTop (mkF m 43 #[.val (.int i)] [(.ref v4)])) _
              exact k
            obtain ⟨fs, hr, hrun, hended, hW, hsame⟩ := X24.leave (v := some (.ref v4)) (fun h => by rw [Bd.returns] at h; cases h)
            refine ⟨_, _, A25 _ ?_, hrun, hended, _, _, rfl, ?_, ⟨_, rfl⟩, hW, hsame.mono (by decide) (by decide)⟩
            · exact retOut X24 hx Bd.returns rfl (Or.inr (Or.inr (Or.inr (Or.inr ⟨rfl, rfl, rfl⟩)))) (hb hby dp_43) hr
            · show own_Qpick Z i v0 v1 v2 v3 v4 v5 v6 v7 v8 h0 n0 _ T24.heap _
              rw [e24]
              exact ⟨by simp [own_pickA, hc2, hc7, hc12, hc17, hc22], N0, rfl⟩
          · have A26 : ∀ t, Steps p.tables e below (s₁.setTop (mkF m 46 #[.val (.int i)] [(.int (5 : Int32)), (.int i)])) t → Steps p.tables e below (s₁.setTop (entryFrame m #[(.int i)] 1)) t := by
              intro t k
              refine A21 _ ?_
              refine XS.icmpYes X0.here hx rfl (pc0 := 37) (pc' := 44) rfl (hb hby dp_37) rfl (feq hc22).2 (by decide) (by decide) ?_
              show Steps p.tables e below (s₁.setTop (mkF m 44 #[.val (.int i)] [])) _
              refine XS.iloadN X0.here hx rfl (hb hby dp_44) rfl ?_
              show Steps p.tables e below (s₁.setTop (mkF m 45 #[.val (.int i)] [(.int i)])) _
              refine XS.iconst X0.here hx rfl (hb hby dp_45) ?_
              show Steps p.tables e below (s₁.setTop (mkF m 46 #[.val (.int i)] [(.int (5 : Int32)), (.int i)])) _
              exact k
            by_cases hc27 : i = (5 : Int32)
            · have A28 : ∀ t, Steps p.tables e below (s₁.setTop (mkF m 49 #[.val (.int i)] [])) t → Steps p.tables e below (s₁.setTop (entryFrame m #[(.int i)] 1)) t := by
                intro t k
                refine A26 _ ?_
                refine XS.icmpNo X0.here hx rfl (hb hby dp_46) rfl (teq hc27).2 ?_
                show Steps p.tables e below (s₁.setTop (mkF m 49 #[.val (.int i)] [])) _
                exact k
              obtain ⟨T29, X29, e29, st29⟩ := getS2 X0 hx hZ hown (host := "") (Or.inl (hw _ (List.mem_of_getElem? (i := 32) rfl))) Via.refl e0 S5 (g := (mkF m 49 #[.val (.int i)] [])) rfl (hb hby dp_49)
              have A30 : ∀ t, Steps p.tables e below (T29.setTop (mkF m 52 #[.val (.int i)] [(.ref v5)])) t → Steps p.tables e below (s₁.setTop (entryFrame m #[(.int i)] 1)) t := by
                intro t k
                refine A28 _ ?_
                refine st29 _ ?_
                show Steps p.tables e below (T29.setTop (mkF m 52 #[.val (.int i)] [(.ref v5)])) _
                exact k
              obtain ⟨fs, hr, hrun, hended, hW, hsame⟩ := X29.leave (v := some (.ref v5)) (fun h => by rw [Bd.returns] at h; cases h)
              refine ⟨_, _, A30 _ ?_, hrun, hended, _, _, rfl, ?_, ⟨_, rfl⟩, hW, hsame.mono (by decide) (by decide)⟩
              · exact retOut X29 hx Bd.returns rfl (Or.inr (Or.inr (Or.inr (Or.inr ⟨rfl, rfl, rfl⟩)))) (hb hby dp_52) hr
              · show own_Qpick Z i v0 v1 v2 v3 v4 v5 v6 v7 v8 h0 n0 _ T29.heap _
                rw [e29]
                exact ⟨by simp [own_pickA, hc2, hc7, hc12, hc17, hc22, hc27], N0, rfl⟩
            · have A31 : ∀ t, Steps p.tables e below (s₁.setTop (mkF m 56 #[.val (.int i)] [(.int (6 : Int32)), (.int i)])) t → Steps p.tables e below (s₁.setTop (entryFrame m #[(.int i)] 1)) t := by
                intro t k
                refine A26 _ ?_
                refine XS.icmpYes X0.here hx rfl (pc0 := 46) (pc' := 53) rfl (hb hby dp_46) rfl (feq hc27).2 (by decide) (by decide) ?_
                show Steps p.tables e below (s₁.setTop (mkF m 53 #[.val (.int i)] [])) _
                refine XS.iloadN X0.here hx rfl (hb hby dp_53) rfl ?_
                show Steps p.tables e below (s₁.setTop (mkF m 54 #[.val (.int i)] [(.int i)])) _
                refine XS.bipush X0.here hx rfl (hb hby dp_54) ?_
                show Steps p.tables e below (s₁.setTop (mkF m 56 #[.val (.int i)] [(.int (6 : Int32)), (.int i)])) _
                exact k
              by_cases hc32 : i = (6 : Int32)
              · have A33 : ∀ t, Steps p.tables e below (s₁.setTop (mkF m 59 #[.val (.int i)] [])) t → Steps p.tables e below (s₁.setTop (entryFrame m #[(.int i)] 1)) t := by
                  intro t k
                  refine A31 _ ?_
                  refine XS.icmpNo X0.here hx rfl (hb hby dp_56) rfl (teq hc32).2 ?_
                  show Steps p.tables e below (s₁.setTop (mkF m 59 #[.val (.int i)] [])) _
                  exact k
                obtain ⟨T34, X34, e34, st34⟩ := getS2 X0 hx hZ hown (host := "") (Or.inl (hw _ (List.mem_of_getElem? (i := 30) rfl))) Via.refl e0 S6 (g := (mkF m 59 #[.val (.int i)] [])) rfl (hb hby dp_59)
                have A35 : ∀ t, Steps p.tables e below (T34.setTop (mkF m 62 #[.val (.int i)] [(.ref v6)])) t → Steps p.tables e below (s₁.setTop (entryFrame m #[(.int i)] 1)) t := by
                  intro t k
                  refine A33 _ ?_
                  refine st34 _ ?_
                  show Steps p.tables e below (T34.setTop (mkF m 62 #[.val (.int i)] [(.ref v6)])) _
                  exact k
                obtain ⟨fs, hr, hrun, hended, hW, hsame⟩ := X34.leave (v := some (.ref v6)) (fun h => by rw [Bd.returns] at h; cases h)
                refine ⟨_, _, A35 _ ?_, hrun, hended, _, _, rfl, ?_, ⟨_, rfl⟩, hW, hsame.mono (by decide) (by decide)⟩
                · exact retOut X34 hx Bd.returns rfl (Or.inr (Or.inr (Or.inr (Or.inr ⟨rfl, rfl, rfl⟩)))) (hb hby dp_62) hr
                · show own_Qpick Z i v0 v1 v2 v3 v4 v5 v6 v7 v8 h0 n0 _ T34.heap _
                  rw [e34]
                  exact ⟨by simp [own_pickA, hc2, hc7, hc12, hc17, hc22, hc27, hc32], N0, rfl⟩
              · have A36 : ∀ t, Steps p.tables e below (s₁.setTop (mkF m 66 #[.val (.int i)] [(.int (7 : Int32)), (.int i)])) t → Steps p.tables e below (s₁.setTop (entryFrame m #[(.int i)] 1)) t := by
                  intro t k
                  refine A31 _ ?_
                  refine XS.icmpYes X0.here hx rfl (pc0 := 56) (pc' := 63) rfl (hb hby dp_56) rfl (feq hc32).2 (by decide) (by decide) ?_
                  show Steps p.tables e below (s₁.setTop (mkF m 63 #[.val (.int i)] [])) _
                  refine XS.iloadN X0.here hx rfl (hb hby dp_63) rfl ?_
                  show Steps p.tables e below (s₁.setTop (mkF m 64 #[.val (.int i)] [(.int i)])) _
                  refine XS.bipush X0.here hx rfl (hb hby dp_64) ?_
                  show Steps p.tables e below (s₁.setTop (mkF m 66 #[.val (.int i)] [(.int (7 : Int32)), (.int i)])) _
                  exact k
                by_cases hc37 : i = (7 : Int32)
                · have A38 : ∀ t, Steps p.tables e below (s₁.setTop (mkF m 69 #[.val (.int i)] [])) t → Steps p.tables e below (s₁.setTop (entryFrame m #[(.int i)] 1)) t := by
                    intro t k
                    refine A36 _ ?_
                    refine XS.icmpNo X0.here hx rfl (hb hby dp_66) rfl (teq hc37).2 ?_
                    show Steps p.tables e below (s₁.setTop (mkF m 69 #[.val (.int i)] [])) _
                    exact k
                  obtain ⟨T39, X39, e39, st39⟩ := getS2 X0 hx hZ hown (host := "") (Or.inl (hw _ (List.mem_of_getElem? (i := 24) rfl))) Via.refl e0 S7 (g := (mkF m 69 #[.val (.int i)] [])) rfl (hb hby dp_69)
                  have A40 : ∀ t, Steps p.tables e below (T39.setTop (mkF m 72 #[.val (.int i)] [(.ref v7)])) t → Steps p.tables e below (s₁.setTop (entryFrame m #[(.int i)] 1)) t := by
                    intro t k
                    refine A38 _ ?_
                    refine st39 _ ?_
                    show Steps p.tables e below (T39.setTop (mkF m 72 #[.val (.int i)] [(.ref v7)])) _
                    exact k
                  obtain ⟨fs, hr, hrun, hended, hW, hsame⟩ := X39.leave (v := some (.ref v7)) (fun h => by rw [Bd.returns] at h; cases h)
                  refine ⟨_, _, A40 _ ?_, hrun, hended, _, _, rfl, ?_, ⟨_, rfl⟩, hW, hsame.mono (by decide) (by decide)⟩
                  · exact retOut X39 hx Bd.returns rfl (Or.inr (Or.inr (Or.inr (Or.inr ⟨rfl, rfl, rfl⟩)))) (hb hby dp_72) hr
                  · show own_Qpick Z i v0 v1 v2 v3 v4 v5 v6 v7 v8 h0 n0 _ T39.heap _
                    rw [e39]
                    exact ⟨by simp [own_pickA, hc2, hc7, hc12, hc17, hc22, hc27, hc32, hc37], N0, rfl⟩
                · have A41 : ∀ t, Steps p.tables e below (s₁.setTop (mkF m 73 #[.val (.int i)] [])) t → Steps p.tables e below (s₁.setTop (entryFrame m #[(.int i)] 1)) t := by
                    intro t k
                    refine A36 _ ?_
                    refine XS.icmpYes X0.here hx rfl (pc0 := 66) (pc' := 73) rfl (hb hby dp_66) rfl (feq hc37).2 (by decide) (by decide) ?_
                    show Steps p.tables e below (s₁.setTop (mkF m 73 #[.val (.int i)] [])) _
                    exact k
                  obtain ⟨T42, X42, e42, st42⟩ := getS2 X0 hx hZ hown (host := "") (Or.inl (hw _ (List.mem_of_getElem? (i := 28) rfl))) Via.refl e0 S8 (g := (mkF m 73 #[.val (.int i)] [])) rfl (hb hby dp_73)
                  have A43 : ∀ t, Steps p.tables e below (T42.setTop (mkF m 76 #[.val (.int i)] [(.ref v8)])) t → Steps p.tables e below (s₁.setTop (entryFrame m #[(.int i)] 1)) t := by
                    intro t k
                    refine A41 _ ?_
                    refine st42 _ ?_
                    show Steps p.tables e below (T42.setTop (mkF m 76 #[.val (.int i)] [(.ref v8)])) _
                    exact k
                  obtain ⟨fs, hr, hrun, hended, hW, hsame⟩ := X42.leave (v := some (.ref v8)) (fun h => by rw [Bd.returns] at h; cases h)
                  refine ⟨_, _, A43 _ ?_, hrun, hended, _, _, rfl, ?_, ⟨_, rfl⟩, hW, hsame.mono (by decide) (by decide)⟩
                  · exact retOut X42 hx Bd.returns rfl (Or.inr (Or.inr (Or.inr (Or.inr ⟨rfl, rfl, rfl⟩)))) (hb hby dp_76) hr
                  · show own_Qpick Z i v0 v1 v2 v3 v4 v5 v6 v7 v8 h0 n0 _ T42.heap _
                    rw [e42]
                    exact ⟨by simp [own_pickA, hc2, hc7, hc12, hc17, hc22, hc27, hc32, hc37], N0, rfl⟩
def own_Qruns (Z : State) (i : Int32) (h0 : Heap) (n0 : Nat) (v : Option Value) (h : Heap) (L : List Loc) : Prop := v = some (.int (own_runs i)) ∧ Fr n0 L ∧ h = h0
theorem own_runsM_ef (m : MethodId) (x0 : Int32) : entryFrame m #[(.int x0)] 1 = mkF m 0 #[.val (.int x0)] [] := by first | (simp [entryFrame, mkF, argsToLocals, Value.category]; done) | rfl
set_option maxRecDepth 65536 in
set_option maxHeartbeats 40000000 in
theorem own_runsM (l : Launch) (Z : State) (a0 : Array Value) (hw : ∀ d ∈ tables_1, d.before a0 Z = true) (ws : List Jvm.Cond) (i : Int32) (h0 : Heap) (n0 : Nat) (Z0 : n0 ≤ h0.size)  :
    MetFree l (⟨"com/example/firm_demarcation/firmdemarcation/transactions/StatusIsRunningPinLaw", "runsStill", "(I)Z"⟩ : MethodName) (head1 (Jvm.Cond.code (⟨"com/example/firm_demarcation/firmdemarcation/transactions/StatusIsRunningPinLaw", "runsStill", "(I)Z"⟩ : MethodName) method_4_code 1 (some .boolean) :: ws) ({ frames := 0, cells := 0, slots := 0, locals := 0 } : Room)) (fun a U => a = #[(.int i)] ∧ Z.Warmed39 U.vm ∧ U.heap = h0) (fun _ _ _ _ _ => True) (fun _ U o U' => ∃ v L, o = .returned v ∧ own_Qruns Z i h0 n0 v U'.heap L ∧ FrameEnd U o U' L ({ frames := 0, cells := 0, slots := 0, locals := 0 } : Room).cells ({ frames := 0, cells := 0, slots := 0, locals := 0 } : Room).slots) := by
  refine MetFree.of_bodySF (plainFor_of_name own_pn0) hisR ?_
  intro p e s m args below meth c s₁ Bd hml0 hP hK
  obtain ⟨rfl, hZ, hh⟩ := hP
  have hx := Bd.exec
  have hby := Bd.bytes
  have hml : c.maxLocals = 1 := hml0
  have hown : s.vm.findClass "com/example/firm_demarcation/firmdemarcation/transactions/StatusIsRunningPinLaw" = some m.cls := findClass_of_methodNamed Bd.named
  have hnm := (name_of_methodNamed Bd.named Bd.method).1
  have X0 : Stand p l e ({ frames := 0, cells := 0, slots := 0, locals := 0 } : Room) s m #[(.int i)] below meth c s₁ [] 0 0 := Stand.of_body Bd
  have e0 : s₁.heap = h0 := by rw [← hh, Bd.state]; rfl
  have N0 := Fr.nil n0
  have A0 : ∀ t, Steps p.tables e below (s₁.setTop (mkF m 0 #[.val (.int i)] [])) t → Steps p.tables e below (s₁.setTop (entryFrame m #[(.int i)] 1)) t := fun t k => castTop (own_runsM_ef m i) k
  have A44 : ∀ t, Steps p.tables e below (s₁.setTop (mkF m 1 #[.val (.int i)] [(.int i)])) t → Steps p.tables e below (s₁.setTop (entryFrame m #[(.int i)] 1)) t := by
    intro t k
    refine A0 _ ?_
    refine XS.iloadN X0.here hx rfl (hb hby ds_0) rfl ?_
    show Steps p.tables e below (s₁.setTop (mkF m 1 #[.val (.int i)] [(.int i)])) _
    exact k
  by_cases hc45 : i = (0 : Int32)
  · have A46 : ∀ t, Steps p.tables e below (s₁.setTop (mkF m 5 #[.val (.int i)] [(.int (1 : Int32))])) t → Steps p.tables e below (s₁.setTop (entryFrame m #[(.int i)] 1)) t := by
      intro t k
      refine A44 _ ?_
      refine XS.ifNo X0.here hx rfl (hb hby ds_1) rfl ((if0 _ _).trans (teq hc45).2) ?_
      show Steps p.tables e below (s₁.setTop (mkF m 4 #[.val (.int i)] [])) _
      refine XS.iconst X0.here hx rfl (hb hby ds_4) ?_
      show Steps p.tables e below (s₁.setTop (mkF m 5 #[.val (.int i)] [(.int (1 : Int32))])) _
      exact k
    obtain ⟨fs, hr, hrun, hended, hW, hsame⟩ := X0.leave (v := some (.int (1 : Int32))) (fun h => by rw [Bd.returns] at h; cases h)
    refine ⟨_, _, A46 _ ?_, hrun, hended, _, _, rfl, ?_, ⟨_, rfl⟩, hW, hsame.mono (by decide) (by decide)⟩
    · exact retN X0 hx (t := .boolean) Bd.returns (by simp) (hb hby ds_5) hr
    · show own_Qruns Z i h0 n0 _ s₁.heap _
      rw [e0]
      exact ⟨by simp [own_runs, hc45], N0, rfl⟩
  · have A47 : ∀ t, Steps p.tables e below (s₁.setTop (mkF m 8 #[.val (.int i)] [(.int (1 : Int32)), (.int i)])) t → Steps p.tables e below (s₁.setTop (entryFrame m #[(.int i)] 1)) t := by
      intro t k
      refine A44 _ ?_
      refine XS.ifYes X0.here hx rfl (pc0 := 1) (pc' := 6) rfl (hb hby ds_1) rfl ((if0 _ _).trans (feq hc45).2) (by decide) (by decide) ?_
      show Steps p.tables e below (s₁.setTop (mkF m 6 #[.val (.int i)] [])) _
      refine XS.iloadN X0.here hx rfl (hb hby ds_6) rfl ?_
      show Steps p.tables e below (s₁.setTop (mkF m 7 #[.val (.int i)] [(.int i)])) _
      refine XS.iconst X0.here hx rfl (hb hby ds_7) ?_
      show Steps p.tables e below (s₁.setTop (mkF m 8 #[.val (.int i)] [(.int (1 : Int32)), (.int i)])) _
      exact k
    by_cases hc48 : i = (1 : Int32)
    · have A49 : ∀ t, Steps p.tables e below (s₁.setTop (mkF m 12 #[.val (.int i)] [(.int (1 : Int32))])) t → Steps p.tables e below (s₁.setTop (entryFrame m #[(.int i)] 1)) t := by
        intro t k
        refine A47 _ ?_
        refine XS.icmpNo X0.here hx rfl (hb hby ds_8) rfl (teq hc48).2 ?_
        show Steps p.tables e below (s₁.setTop (mkF m 11 #[.val (.int i)] [])) _
        refine XS.iconst X0.here hx rfl (hb hby ds_11) ?_
        show Steps p.tables e below (s₁.setTop (mkF m 12 #[.val (.int i)] [(.int (1 : Int32))])) _
        exact k
      obtain ⟨fs, hr, hrun, hended, hW, hsame⟩ := X0.leave (v := some (.int (1 : Int32))) (fun h => by rw [Bd.returns] at h; cases h)
      refine ⟨_, _, A49 _ ?_, hrun, hended, _, _, rfl, ?_, ⟨_, rfl⟩, hW, hsame.mono (by decide) (by decide)⟩
      · exact retN X0 hx (t := .boolean) Bd.returns (by simp) (hb hby ds_12) hr
      · show own_Qruns Z i h0 n0 _ s₁.heap _
        rw [e0]
        exact ⟨by simp [own_runs, hc45, hc48], N0, rfl⟩
    · have A50 : ∀ t, Steps p.tables e below (s₁.setTop (mkF m 15 #[.val (.int i)] [(.int (2 : Int32)), (.int i)])) t → Steps p.tables e below (s₁.setTop (entryFrame m #[(.int i)] 1)) t := by
        intro t k
        refine A47 _ ?_
        refine XS.icmpYes X0.here hx rfl (pc0 := 8) (pc' := 13) rfl (hb hby ds_8) rfl (feq hc48).2 (by decide) (by decide) ?_
        show Steps p.tables e below (s₁.setTop (mkF m 13 #[.val (.int i)] [])) _
        refine XS.iloadN X0.here hx rfl (hb hby ds_13) rfl ?_
        show Steps p.tables e below (s₁.setTop (mkF m 14 #[.val (.int i)] [(.int i)])) _
        refine XS.iconst X0.here hx rfl (hb hby ds_14) ?_
        show Steps p.tables e below (s₁.setTop (mkF m 15 #[.val (.int i)] [(.int (2 : Int32)), (.int i)])) _
        exact k
      by_cases hc51 : i = (2 : Int32)
      · have A52 : ∀ t, Steps p.tables e below (s₁.setTop (mkF m 19 #[.val (.int i)] [(.int (0 : Int32))])) t → Steps p.tables e below (s₁.setTop (entryFrame m #[(.int i)] 1)) t := by
          intro t k
          refine A50 _ ?_
          refine XS.icmpNo X0.here hx rfl (hb hby ds_15) rfl (teq hc51).2 ?_
          show Steps p.tables e below (s₁.setTop (mkF m 18 #[.val (.int i)] [])) _
          refine XS.iconst X0.here hx rfl (hb hby ds_18) ?_
          show Steps p.tables e below (s₁.setTop (mkF m 19 #[.val (.int i)] [(.int (0 : Int32))])) _
          exact k
        obtain ⟨fs, hr, hrun, hended, hW, hsame⟩ := X0.leave (v := some (.int (0 : Int32))) (fun h => by rw [Bd.returns] at h; cases h)
        refine ⟨_, _, A52 _ ?_, hrun, hended, _, _, rfl, ?_, ⟨_, rfl⟩, hW, hsame.mono (by decide) (by decide)⟩
        · exact retN X0 hx (t := .boolean) Bd.returns (by simp) (hb hby ds_19) hr
        · show own_Qruns Z i h0 n0 _ s₁.heap _
          rw [e0]
          exact ⟨by simp [own_runs, hc45, hc48, hc51], N0, rfl⟩
      · have A53 : ∀ t, Steps p.tables e below (s₁.setTop (mkF m 22 #[.val (.int i)] [(.int (3 : Int32)), (.int i)])) t → Steps p.tables e below (s₁.setTop (entryFrame m #[(.int i)] 1)) t := by
          intro t k
          refine A50 _ ?_
          refine XS.icmpYes X0.here hx rfl (pc0 := 15) (pc' := 20) rfl (hb hby ds_15) rfl (feq hc51).2 (by decide) (by decide) ?_
          show Steps p.tables e below (s₁.setTop (mkF m 20 #[.val (.int i)] [])) _
          refine XS.iloadN X0.here hx rfl (hb hby ds_20) rfl ?_
          show Steps p.tables e below (s₁.setTop (mkF m 21 #[.val (.int i)] [(.int i)])) _
          refine XS.iconst X0.here hx rfl (hb hby ds_21) ?_
          show Steps p.tables e below (s₁.setTop (mkF m 22 #[.val (.int i)] [(.int (3 : Int32)), (.int i)])) _
          exact k
        by_cases hc54 : i = (3 : Int32)
        · have A55 : ∀ t, Steps p.tables e below (s₁.setTop (mkF m 26 #[.val (.int i)] [(.int (0 : Int32))])) t → Steps p.tables e below (s₁.setTop (entryFrame m #[(.int i)] 1)) t := by
            intro t k
            refine A53 _ ?_
            refine XS.icmpNo X0.here hx rfl (hb hby ds_22) rfl (teq hc54).2 ?_
            show Steps p.tables e below (s₁.setTop (mkF m 25 #[.val (.int i)] [])) _
            refine XS.iconst X0.here hx rfl (hb hby ds_25) ?_
            show Steps p.tables e below (s₁.setTop (mkF m 26 #[.val (.int i)] [(.int (0 : Int32))])) _
            exact k
          obtain ⟨fs, hr, hrun, hended, hW, hsame⟩ := X0.leave (v := some (.int (0 : Int32))) (fun h => by rw [Bd.returns] at h; cases h)
          refine ⟨_, _, A55 _ ?_, hrun, hended, _, _, rfl, ?_, ⟨_, rfl⟩, hW, hsame.mono (by decide) (by decide)⟩
          · exact retN X0 hx (t := .boolean) Bd.returns (by simp) (hb hby ds_26) hr
          · show own_Qruns Z i h0 n0 _ s₁.heap _
            rw [e0]
            exact ⟨by simp [own_runs, hc45, hc48, hc51, hc54], N0, rfl⟩
        · have A56 : ∀ t, Steps p.tables e below (s₁.setTop (mkF m 29 #[.val (.int i)] [(.int (4 : Int32)), (.int i)])) t → Steps p.tables e below (s₁.setTop (entryFrame m #[(.int i)] 1)) t := by
            intro t k
            refine A53 _ ?_
            refine XS.icmpYes X0.here hx rfl (pc0 := 22) (pc' := 27) rfl (hb hby ds_22) rfl (feq hc54).2 (by decide) (by decide) ?_
            show Steps p.tables e below (s₁.setTop (mkF m 27 #[.val (.int i)] [])) _
            refine XS.iloadN X0.here hx rfl (hb hby ds_27) rfl ?_
            show Steps p.tables e below (s₁.setTop (mkF m 28 #[.val (.int i)] [(.int i)])) _
            refine XS.iconst X0.here hx rfl (hb hby ds_28) ?_
            show Steps p.tables e below (s₁.setTop (mkF m 29 #[.val (.int i)] [(.int (4 : Int32)), (.int i)])) _
            exact k
          by_cases hc57 : i = (4 : Int32)
          · have A58 : ∀ t, Steps p.tables e below (s₁.setTop (mkF m 33 #[.val (.int i)] [(.int (0 : Int32))])) t → Steps p.tables e below (s₁.setTop (entryFrame m #[(.int i)] 1)) t := by
              intro t k
              refine A56 _ ?_
              refine XS.icmpNo X0.here hx rfl (hb hby ds_29) rfl (teq hc57).2 ?_
              show Steps p.tables e below (s₁.setTop (mkF m 32 #[.val (.int i)] [])) _
              refine XS.iconst X0.here hx rfl (hb hby ds_32) ?_
              show Steps p.tables e below (s₁.setTop (mkF m 33 #[.val (.int i)] [(.int (0 : Int32))])) _
              exact k
            obtain ⟨fs, hr, hrun, hended, hW, hsame⟩ := X0.leave (v := some (.int (0 : Int32))) (fun h => by rw [Bd.returns] at h; cases h)
            refine ⟨_, _, A58 _ ?_, hrun, hended, _, _, rfl, ?_, ⟨_, rfl⟩, hW, hsame.mono (by decide) (by decide)⟩
            · exact retN X0 hx (t := .boolean) Bd.returns (by simp) (hb hby ds_33) hr
            · show own_Qruns Z i h0 n0 _ s₁.heap _
              rw [e0]
              exact ⟨by simp [own_runs, hc45, hc48, hc51, hc54, hc57], N0, rfl⟩
          · have A59 : ∀ t, Steps p.tables e below (s₁.setTop (mkF m 36 #[.val (.int i)] [(.int (5 : Int32)), (.int i)])) t → Steps p.tables e below (s₁.setTop (entryFrame m #[(.int i)] 1)) t := by
              intro t k
              refine A56 _ ?_
              refine XS.icmpYes X0.here hx rfl (pc0 := 29) (pc' := 34) rfl (hb hby ds_29) rfl (feq hc57).2 (by decide) (by decide) ?_
              show Steps p.tables e below (s₁.setTop (mkF m 34 #[.val (.int i)] [])) _
              refine XS.iloadN X0.here hx rfl (hb hby ds_34) rfl ?_
              show Steps p.tables e below (s₁.setTop (mkF m 35 #[.val (.int i)] [(.int i)])) _
              refine XS.iconst X0.here hx rfl (hb hby ds_35) ?_
              show Steps p.tables e below (s₁.setTop (mkF m 36 #[.val (.int i)] [(.int (5 : Int32)), (.int i)])) _
              exact k
            by_cases hc60 : i = (5 : Int32)
            · have A61 : ∀ t, Steps p.tables e below (s₁.setTop (mkF m 40 #[.val (.int i)] [(.int (0 : Int32))])) t → Steps p.tables e below (s₁.setTop (entryFrame m #[(.int i)] 1)) t := by
                intro t k
                refine A59 _ ?_
                refine XS.icmpNo X0.here hx rfl (hb hby ds_36) rfl (teq hc60).2 ?_
                show Steps p.tables e below (s₁.setTop (mkF m 39 #[.val (.int i)] [])) _
                refine XS.iconst X0.here hx rfl (hb hby ds_39) ?_
                show Steps p.tables e below (s₁.setTop (mkF m 40 #[.val (.int i)] [(.int (0 : Int32))])) _
                exact k
              obtain ⟨fs, hr, hrun, hended, hW, hsame⟩ := X0.leave (v := some (.int (0 : Int32))) (fun h => by rw [Bd.returns] at h; cases h)
              refine ⟨_, _, A61 _ ?_, hrun, hended, _, _, rfl, ?_, ⟨_, rfl⟩, hW, hsame.mono (by decide) (by decide)⟩
              · exact retN X0 hx (t := .boolean) Bd.returns (by simp) (hb hby ds_40) hr
              · show own_Qruns Z i h0 n0 _ s₁.heap _
                rw [e0]
                exact ⟨by simp [own_runs, hc45, hc48, hc51, hc54, hc57, hc60], N0, rfl⟩
            · have A62 : ∀ t, Steps p.tables e below (s₁.setTop (mkF m 44 #[.val (.int i)] [(.int (6 : Int32)), (.int i)])) t → Steps p.tables e below (s₁.setTop (entryFrame m #[(.int i)] 1)) t := by
                intro t k
                refine A59 _ ?_
                refine XS.icmpYes X0.here hx rfl (pc0 := 36) (pc' := 41) rfl (hb hby ds_36) rfl (feq hc60).2 (by decide) (by decide) ?_
                show Steps p.tables e below (s₁.setTop (mkF m 41 #[.val (.int i)] [])) _
                refine XS.iloadN X0.here hx rfl (hb hby ds_41) rfl ?_
                show Steps p.tables e below (s₁.setTop (mkF m 42 #[.val (.int i)] [(.int i)])) _
                refine XS.bipush X0.here hx rfl (hb hby ds_42) ?_
                show Steps p.tables e below (s₁.setTop (mkF m 44 #[.val (.int i)] [(.int (6 : Int32)), (.int i)])) _
                exact k
              by_cases hc63 : i = (6 : Int32)
              · have A64 : ∀ t, Steps p.tables e below (s₁.setTop (mkF m 48 #[.val (.int i)] [(.int (0 : Int32))])) t → Steps p.tables e below (s₁.setTop (entryFrame m #[(.int i)] 1)) t := by
                  intro t k
                  refine A62 _ ?_
                  refine XS.icmpNo X0.here hx rfl (hb hby ds_44) rfl (teq hc63).2 ?_
                  show Steps p.tables e below (s₁.setTop (mkF m 47 #[.val (.int i)] [])) _
                  refine XS.iconst X0.here hx rfl (hb hby ds_47) ?_
                  show Steps p.tables e below (s₁.setTop (mkF m 48 #[.val (.int i)] [(.int (0 : Int32))])) _
                  exact k
                obtain ⟨fs, hr, hrun, hended, hW, hsame⟩ := X0.leave (v := some (.int (0 : Int32))) (fun h => by rw [Bd.returns] at h; cases h)
                refine ⟨_, _, A64 _ ?_, hrun, hended, _, _, rfl, ?_, ⟨_, rfl⟩, hW, hsame.mono (by decide) (by decide)⟩
                · exact retN X0 hx (t := .boolean) Bd.returns (by simp) (hb hby ds_48) hr
                · show own_Qruns Z i h0 n0 _ s₁.heap _
                  rw [e0]
                  exact ⟨by simp [own_runs, hc45, hc48, hc51, hc54, hc57, hc60, hc63], N0, rfl⟩
              · have A65 : ∀ t, Steps p.tables e below (s₁.setTop (mkF m 52 #[.val (.int i)] [(.int (7 : Int32)), (.int i)])) t → Steps p.tables e below (s₁.setTop (entryFrame m #[(.int i)] 1)) t := by
                  intro t k
                  refine A62 _ ?_
                  refine XS.icmpYes X0.here hx rfl (pc0 := 44) (pc' := 49) rfl (hb hby ds_44) rfl (feq hc63).2 (by decide) (by decide) ?_
                  show Steps p.tables e below (s₁.setTop (mkF m 49 #[.val (.int i)] [])) _
                  refine XS.iloadN X0.here hx rfl (hb hby ds_49) rfl ?_
                  show Steps p.tables e below (s₁.setTop (mkF m 50 #[.val (.int i)] [(.int i)])) _
                  refine XS.bipush X0.here hx rfl (hb hby ds_50) ?_
                  show Steps p.tables e below (s₁.setTop (mkF m 52 #[.val (.int i)] [(.int (7 : Int32)), (.int i)])) _
                  exact k
                by_cases hc66 : i = (7 : Int32)
                · have A67 : ∀ t, Steps p.tables e below (s₁.setTop (mkF m 56 #[.val (.int i)] [(.int (0 : Int32))])) t → Steps p.tables e below (s₁.setTop (entryFrame m #[(.int i)] 1)) t := by
                    intro t k
                    refine A65 _ ?_
                    refine XS.icmpNo X0.here hx rfl (hb hby ds_52) rfl (teq hc66).2 ?_
                    show Steps p.tables e below (s₁.setTop (mkF m 55 #[.val (.int i)] [])) _
                    refine XS.iconst X0.here hx rfl (hb hby ds_55) ?_
                    show Steps p.tables e below (s₁.setTop (mkF m 56 #[.val (.int i)] [(.int (0 : Int32))])) _
                    exact k
                  obtain ⟨fs, hr, hrun, hended, hW, hsame⟩ := X0.leave (v := some (.int (0 : Int32))) (fun h => by rw [Bd.returns] at h; cases h)
                  refine ⟨_, _, A67 _ ?_, hrun, hended, _, _, rfl, ?_, ⟨_, rfl⟩, hW, hsame.mono (by decide) (by decide)⟩
                  · exact retN X0 hx (t := .boolean) Bd.returns (by simp) (hb hby ds_56) hr
                  · show own_Qruns Z i h0 n0 _ s₁.heap _
                    rw [e0]
                    exact ⟨by simp [own_runs, hc45, hc48, hc51, hc54, hc57, hc60, hc63, hc66], N0, rfl⟩
                · have A68 : ∀ t, Steps p.tables e below (s₁.setTop (mkF m 58 #[.val (.int i)] [(.int (0 : Int32))])) t → Steps p.tables e below (s₁.setTop (entryFrame m #[(.int i)] 1)) t := by
                    intro t k
                    refine A65 _ ?_
                    refine XS.icmpYes X0.here hx rfl (pc0 := 52) (pc' := 57) rfl (hb hby ds_52) rfl (feq hc66).2 (by decide) (by decide) ?_
                    show Steps p.tables e below (s₁.setTop (mkF m 57 #[.val (.int i)] [])) _
                    refine XS.iconst X0.here hx rfl (hb hby ds_57) ?_
                    show Steps p.tables e below (s₁.setTop (mkF m 58 #[.val (.int i)] [(.int (0 : Int32))])) _
                    exact k
                  obtain ⟨fs, hr, hrun, hended, hW, hsame⟩ := X0.leave (v := some (.int (0 : Int32))) (fun h => by rw [Bd.returns] at h; cases h)
                  refine ⟨_, _, A68 _ ?_, hrun, hended, _, _, rfl, ?_, ⟨_, rfl⟩, hW, hsame.mono (by decide) (by decide)⟩
                  · exact retN X0 hx (t := .boolean) Bd.returns (by simp) (hb hby ds_58) hr
                  · show own_Qruns Z i h0 n0 _ s₁.heap _
                    rw [e0]
                    exact ⟨by simp [own_runs, hc45, hc48, hc51, hc54, hc57, hc60, hc63, hc66], N0, rfl⟩
def own_Qisr (Z : State) (xa v0 v1 : Addr) (h0 : Heap) (n0 : Nat) (v : Option Value) (h : Heap) (L : List Loc) : Prop := v = some (.int (if xa = v0 then 1 else if xa = v1 then 1 else 0)) ∧ Fr n0 L ∧ h = h0
theorem own_isr_ef (m : MethodId) (x0 : Addr) : entryFrame m #[(.ref x0)] 1 = mkF m 0 #[.val (.ref x0)] [] := by first | (simp [entryFrame, mkF, argsToLocals, Value.category]; done) | rfl
set_option maxRecDepth 65536 in
set_option maxHeartbeats 40000000 in
theorem own_isr (l : Launch) (Z : State) (a0 : Array Value) (hw : ∀ d ∈ tables_1, d.before a0 Z = true) (ws : List Jvm.Cond) (xa v0 v1 : Addr) (h0 : Heap) (n0 : Nat) (Z0 : n0 ≤ h0.size) (S0 : Sta Z h0 "com/example/firm_demarcation/firmdemarcation/transactions/Transaction$Status" "ACTIVE" "Lcom/example/firm_demarcation/firmdemarcation/transactions/Transaction$Status;" (.ref v0)) (S1 : Sta Z h0 "com/example/firm_demarcation/firmdemarcation/transactions/Transaction$Status" "MARKED_ROLLBACK_ONLY" "Lcom/example/firm_demarcation/firmdemarcation/transactions/Transaction$Status;" (.ref v1)) :
    MetFree l (⟨"com/example/firm_demarcation/firmdemarcation/transactions/Transaction$Status", "isRunning", "()Z"⟩ : MethodName) (head1 (Jvm.Cond.code (⟨"com/example/firm_demarcation/firmdemarcation/transactions/Transaction$Status", "isRunning", "()Z"⟩ : MethodName) prog_100_method_4_code 1 (some .boolean) :: ws) ({ frames := 0, cells := 0, slots := 0, locals := 0 } : Room)) (fun a U => a = #[(.ref xa)] ∧ Z.Warmed39 U.vm ∧ U.heap = h0) (fun _ _ _ _ _ => True) (fun _ U o U' => ∃ v L, o = .returned v ∧ own_Qisr Z xa v0 v1 h0 n0 v U'.heap L ∧ FrameEnd U o U' L ({ frames := 0, cells := 0, slots := 0, locals := 0 } : Room).cells ({ frames := 0, cells := 0, slots := 0, locals := 0 } : Room).slots) := by
  refine MetFree.of_bodySF (plainFor_of_name own_pn1) hisR ?_
  intro p e s m args below meth c s₁ Bd hml0 hP hK
  obtain ⟨rfl, hZ, hh⟩ := hP
  have hx := Bd.exec
  have hby := Bd.bytes
  have hml : c.maxLocals = 1 := hml0
  have hown : s.vm.findClass "com/example/firm_demarcation/firmdemarcation/transactions/Transaction$Status" = some m.cls := findClass_of_methodNamed Bd.named
  have hnm := (name_of_methodNamed Bd.named Bd.method).1
  have X0 : Stand p l e ({ frames := 0, cells := 0, slots := 0, locals := 0 } : Room) s m #[(.ref xa)] below meth c s₁ [] 0 0 := Stand.of_body Bd
  have e0 : s₁.heap = h0 := by rw [← hh, Bd.state]; rfl
  have N0 := Fr.nil n0
  have A0 : ∀ t, Steps p.tables e below (s₁.setTop (mkF m 0 #[.val (.ref xa)] [])) t → Steps p.tables e below (s₁.setTop (entryFrame m #[(.ref xa)] 1)) t := fun t k => castTop (own_isr_ef m xa) k
  have A69 : ∀ t, Steps p.tables e below (s₁.setTop (mkF m 1 #[.val (.ref xa)] [(.ref xa)])) t → Steps p.tables e below (s₁.setTop (entryFrame m #[(.ref xa)] 1)) t := by
    intro t k
    refine A0 _ ?_
    refine XS.aloadN X0.here hx rfl (hb hby dr_0) rfl rfl ?_
    show Steps p.tables e below (s₁.setTop (mkF m 1 #[.val (.ref xa)] [(.ref xa)])) _
    exact k
  obtain ⟨T70, X70, e70, st70⟩ := getS2 X0 hx hZ hown (host := "") (Or.inl (hw _ (List.mem_of_getElem? (i := 16) rfl))) Via.refl e0 S0 (g := (mkF m 1 #[.val (.ref xa)] [(.ref xa)])) rfl (hb hby dr_1)
  have A71 : ∀ t, Steps p.tables e below (T70.setTop (mkF m 4 #[.val (.ref xa)] [(.ref v0), (.ref xa)])) t → Steps p.tables e below (s₁.setTop (entryFrame m #[(.ref xa)] 1)) t := by
    intro t k
    refine A69 _ ?_
    refine st70 _ ?_
    show Steps p.tables e below (T70.setTop (mkF m 4 #[.val (.ref xa)] [(.ref v0), (.ref xa)])) _
    exact k
  by_cases hc72 : xa = v0
  · have A73 : ∀ t, Steps p.tables e below (T70.setTop (mkF m 19 #[.val (.ref xa)] [(.int (1 : Int32))])) t → Steps p.tables e below (s₁.setTop (entryFrame m #[(.ref xa)] 1)) t := by
      intro t k
      refine A71 _ ?_
      refine Jvm.RoadKit.acmp (g := (mkF m 4 #[.val (.ref xa)] [(.ref v0), (.ref xa)])) X70 hx rfl rfl rfl (pc0 := 4) (pc' := 14) (same := true) rfl (hb hby dr_4) rfl (decide_eq_true (congrArg Value.ref hc72)) (by decide) (by decide) ?_
      show Steps p.tables e below (T70.setTop (mkF m 14 #[.val (.ref xa)] [])) _
      refine XS.iconst X70.here hx rfl (hb hby dr_14) ?_
      show Steps p.tables e below (T70.setTop (mkF m 15 #[.val (.ref xa)] [(.int (1 : Int32))])) _
      refine XS.goto X70.here hx rfl (pc0 := 15) (pc' := 19) rfl (hb hby dr_15) (by decide) (by decide) ?_
      show Steps p.tables e below (T70.setTop (mkF m 19 #[.val (.ref xa)] [(.int (1 : Int32))])) _
      exact k
    obtain ⟨fs, hr, hrun, hended, hW, hsame⟩ := X70.leave (v := some (.int (1 : Int32))) (fun h => by rw [Bd.returns] at h; cases h)
    refine ⟨_, _, A73 _ ?_, hrun, hended, _, _, rfl, ?_, ⟨_, rfl⟩, hW, hsame.mono (by decide) (by decide)⟩
    · exact retN X70 hx (t := .boolean) Bd.returns (by simp) (hb hby dr_19) hr
    · show own_Qisr Z xa v0 v1 h0 n0 _ T70.heap _
      rw [e70]
      exact ⟨by simp [hc72], N0, rfl⟩
  · have A74 : ∀ t, Steps p.tables e below (T70.setTop (mkF m 8 #[.val (.ref xa)] [(.ref xa)])) t → Steps p.tables e below (s₁.setTop (entryFrame m #[(.ref xa)] 1)) t := by
      intro t k
      refine A71 _ ?_
      refine Jvm.RoadKit.acmp (g := (mkF m 4 #[.val (.ref xa)] [(.ref v0), (.ref xa)])) X70 hx rfl rfl rfl (pc0 := 4) (pc' := 7) (same := false) rfl (hb hby dr_4) rfl (decide_eq_false fun q => hc72 (Value.ref.inj q)) (by decide) (by decide) ?_
      show Steps p.tables e below (T70.setTop (mkF m 7 #[.val (.ref xa)] [])) _
      refine XS.aloadN X70.here hx rfl (hb hby dr_7) rfl rfl ?_
      show Steps p.tables e below (T70.setTop (mkF m 8 #[.val (.ref xa)] [(.ref xa)])) _
      exact k
    obtain ⟨T75, X75, e75, st75⟩ := getS2 X70 hx hZ hown (host := "") (Or.inl (hw _ (List.mem_of_getElem? (i := 19) rfl))) Via.refl e70 S1 (g := (mkF m 8 #[.val (.ref xa)] [(.ref xa)])) rfl (hb hby dr_8)
    have A76 : ∀ t, Steps p.tables e below (T75.setTop (mkF m 11 #[.val (.ref xa)] [(.ref v1), (.ref xa)])) t → Steps p.tables e below (s₁.setTop (entryFrame m #[(.ref xa)] 1)) t := by
      intro t k
      refine A74 _ ?_
      refine st75 _ ?_
      show Steps p.tables e below (T75.setTop (mkF m 11 #[.val (.ref xa)] [(.ref v1), (.ref xa)])) _
      exact k
    by_cases hc77 : xa = v1
    · have A78 : ∀ t, Steps p.tables e below (T75.setTop (mkF m 19 #[.val (.ref xa)] [(.int (1 : Int32))])) t → Steps p.tables e below (s₁.setTop (entryFrame m #[(.ref xa)] 1)) t := by
        intro t k
        refine A76 _ ?_
        refine Jvm.RoadKit.acmp (g := (mkF m 11 #[.val (.ref xa)] [(.ref v1), (.ref xa)])) X75 hx rfl rfl rfl (pc0 := 11) (pc' := 14) (same := true) rfl (hb hby dr_11) rfl (decide_eq_true (congrArg Value.ref hc77)) (by decide) (by decide) ?_
        show Steps p.tables e below (T75.setTop (mkF m 14 #[.val (.ref xa)] [])) _
        refine XS.iconst X75.here hx rfl (hb hby dr_14) ?_
        show Steps p.tables e below (T75.setTop (mkF m 15 #[.val (.ref xa)] [(.int (1 : Int32))])) _
        refine XS.goto X75.here hx rfl (pc0 := 15) (pc' := 19) rfl (hb hby dr_15) (by decide) (by decide) ?_
        show Steps p.tables e below (T75.setTop (mkF m 19 #[.val (.ref xa)] [(.int (1 : Int32))])) _
        exact k
      obtain ⟨fs, hr, hrun, hended, hW, hsame⟩ := X75.leave (v := some (.int (1 : Int32))) (fun h => by rw [Bd.returns] at h; cases h)
      refine ⟨_, _, A78 _ ?_, hrun, hended, _, _, rfl, ?_, ⟨_, rfl⟩, hW, hsame.mono (by decide) (by decide)⟩
      · exact retN X75 hx (t := .boolean) Bd.returns (by simp) (hb hby dr_19) hr
      · show own_Qisr Z xa v0 v1 h0 n0 _ T75.heap _
        rw [e75]
        exact ⟨by simp [hc72, hc77], N0, rfl⟩
    · have A79 : ∀ t, Steps p.tables e below (T75.setTop (mkF m 19 #[.val (.ref xa)] [(.int (0 : Int32))])) t → Steps p.tables e below (s₁.setTop (entryFrame m #[(.ref xa)] 1)) t := by
        intro t k
        refine A76 _ ?_
        refine Jvm.RoadKit.acmp (g := (mkF m 11 #[.val (.ref xa)] [(.ref v1), (.ref xa)])) X75 hx rfl rfl rfl (pc0 := 11) (pc' := 18) (same := false) rfl (hb hby dr_11) rfl (decide_eq_false fun q => hc77 (Value.ref.inj q)) (by decide) (by decide) ?_
        show Steps p.tables e below (T75.setTop (mkF m 18 #[.val (.ref xa)] [])) _
        refine XS.iconst X75.here hx rfl (hb hby dr_18) ?_
        show Steps p.tables e below (T75.setTop (mkF m 19 #[.val (.ref xa)] [(.int (0 : Int32))])) _
        exact k
      obtain ⟨fs, hr, hrun, hended, hW, hsame⟩ := X75.leave (v := some (.int (0 : Int32))) (fun h => by rw [Bd.returns] at h; cases h)
      refine ⟨_, _, A79 _ ?_, hrun, hended, _, _, rfl, ?_, ⟨_, rfl⟩, hW, hsame.mono (by decide) (by decide)⟩
      · exact retN X75 hx (t := .boolean) Bd.returns (by simp) (hb hby dr_19) hr
      · show own_Qisr Z xa v0 v1 h0 n0 _ T75.heap _
        rw [e75]
        exact ⟨by simp [hc72, hc77], N0, rfl⟩
def own_Q0 (Z : State) (xk : Int32) (h0 : Heap) (n0 : Nat) (v : Option Value) (h : Heap) (L : List Loc) : Prop := v = some (.int 1) ∧ Fr n0 L
theorem own_law_ef (m : MethodId) (x0 : Int32) : entryFrame m #[(.int x0)] maxLocals = mkF m 0 #[.val (.int x0), .unset, .unset, .unset] [] := by first | (simp [entryFrame, mkF, argsToLocals, Value.category, maxLocals]; done) | rfl
set_option maxRecDepth 65536 in
set_option maxHeartbeats 40000000 in
theorem own_law (l : Launch) (Z : State) (a0 : Array Value) (hw : ∀ d ∈ tables_1, d.before a0 Z = true) (ws : List Jvm.Cond) (xk : Int32) (v0 v1 v2 v3 v4 v5 v6 v7 v8 : Addr) (h0 : Heap) (n0 : Nat) (Z0 : n0 ≤ h0.size) (S0 : Sta Z h0 "com/example/firm_demarcation/firmdemarcation/transactions/Transaction$Status" "ACTIVE" "Lcom/example/firm_demarcation/firmdemarcation/transactions/Transaction$Status;" (.ref v0)) (S1 : Sta Z h0 "com/example/firm_demarcation/firmdemarcation/transactions/Transaction$Status" "MARKED_ROLLBACK_ONLY" "Lcom/example/firm_demarcation/firmdemarcation/transactions/Transaction$Status;" (.ref v1)) (S2 : Sta Z h0 "com/example/firm_demarcation/firmdemarcation/transactions/Transaction$Status" "PREPARING" "Lcom/example/firm_demarcation/firmdemarcation/transactions/Transaction$Status;" (.ref v2)) (S3 : Sta Z h0 "com/example/firm_demarcation/firmdemarcation/transactions/Transaction$Status" "PREPARED" "Lcom/example/firm_demarcation/firmdemarcation/transactions/Transaction$Status;" (.ref v3)) (S4 : Sta Z h0 "com/example/firm_demarcation/firmdemarcation/transactions/Transaction$Status" "COMMITTING" "Lcom/example/firm_demarcation/firmdemarcation/transactions/Transaction$Status;" (.ref v4)) (S5 : Sta Z h0 "com/example/firm_demarcation/firmdemarcation/transactions/Transaction$Status" "ROLLING_BACK" "Lcom/example/firm_demarcation/firmdemarcation/transactions/Transaction$Status;" (.ref v5)) (S6 : Sta Z h0 "com/example/firm_demarcation/firmdemarcation/transactions/Transaction$Status" "COMMITTED" "Lcom/example/firm_demarcation/firmdemarcation/transactions/Transaction$Status;" (.ref v6)) (S7 : Sta Z h0 "com/example/firm_demarcation/firmdemarcation/transactions/Transaction$Status" "ROLLED_BACK" "Lcom/example/firm_demarcation/firmdemarcation/transactions/Transaction$Status;" (.ref v7)) (S8 : Sta Z h0 "com/example/firm_demarcation/firmdemarcation/transactions/Transaction$Status" "UNKNOWN" "Lcom/example/firm_demarcation/firmdemarcation/transactions/Transaction$Status;" (.ref v8)) (E0 : Exa Z h0 v0 "com/example/firm_demarcation/firmdemarcation/transactions/Transaction$Status") (E1 : Exa Z h0 v1 "com/example/firm_demarcation/firmdemarcation/transactions/Transaction$Status") (E2 : Exa Z h0 v2 "com/example/firm_demarcation/firmdemarcation/transactions/Transaction$Status") (E3 : Exa Z h0 v3 "com/example/firm_demarcation/firmdemarcation/transactions/Transaction$Status") (E4 : Exa Z h0 v4 "com/example/firm_demarcation/firmdemarcation/transactions/Transaction$Status") (E5 : Exa Z h0 v5 "com/example/firm_demarcation/firmdemarcation/transactions/Transaction$Status") (E6 : Exa Z h0 v6 "com/example/firm_demarcation/firmdemarcation/transactions/Transaction$Status") (E7 : Exa Z h0 v7 "com/example/firm_demarcation/firmdemarcation/transactions/Transaction$Status") (E8 : Exa Z h0 v8 "com/example/firm_demarcation/firmdemarcation/transactions/Transaction$Status") (ne10 : v1 ≠ v0) (ne2a : v2 ≠ v0) (ne2b : v2 ≠ v1) (ne3a : v3 ≠ v0) (ne3b : v3 ≠ v1) (ne4a : v4 ≠ v0) (ne4b : v4 ≠ v1) (ne5a : v5 ≠ v0) (ne5b : v5 ≠ v1) (ne6a : v6 ≠ v0) (ne6b : v6 ≠ v1) (ne7a : v7 ≠ v0) (ne7b : v7 ≠ v1) (ne8a : v8 ≠ v0) (ne8b : v8 ≠ v1) :
    MetFree l x (head1 (Jvm.Cond.code x code maxLocals ret :: ws) room_1) (fun a U => a = #[(.int xk)] ∧ Z.Warmed39 U.vm ∧ U.heap = h0) (fun _ _ _ _ _ => True) (fun _ U o U' => ∃ v L, o = .returned v ∧ own_Q0 Z xk h0 n0 v U'.heap L ∧ FrameEnd U o U' L room_1.cells room_1.slots) := by
  refine MetFree.of_bodySF (plainFor_of_name own_pn0) hisR ?_
  intro p e s m args below meth c s₁ Bd hml0 hP hK
  obtain ⟨rfl, hZ, hh⟩ := hP
  have hx := Bd.exec
  have hby := Bd.bytes
  have hml : c.maxLocals = 4 := hml0
  have hown : s.vm.findClass "com/example/firm_demarcation/firmdemarcation/transactions/StatusIsRunningPinLaw" = some m.cls := findClass_of_methodNamed Bd.named
  have hnm := (name_of_methodNamed Bd.named Bd.method).1
  have X0 : Stand p l e room_1 s m #[(.int xk)] below meth c s₁ [] 0 0 := Stand.of_body Bd
  have e0 : s₁.heap = h0 := by rw [← hh, Bd.state]; rfl
  have N0 := Fr.nil n0
  have A0 : ∀ t, Steps p.tables e below (s₁.setTop (mkF m 0 #[.val (.int xk), .unset, .unset, .unset] [])) t → Steps p.tables e below (s₁.setTop (entryFrame m #[(.int xk)] maxLocals)) t := fun t k => castTop (own_law_ef m xk) k
  have A80 : ∀ t, Steps p.tables e below (s₁.setTop (mkF m 9 #[.val (.int xk), .val (.int ((xk &&& (2147483647 : Int32)) % (9 : Int32))), .unset, .unset] [(.int ((xk &&& (2147483647 : Int32)) % (9 : Int32)))])) t → Steps p.tables e below (s₁.setTop (entryFrame m #[(.int xk)] maxLocals)) t := by
    intro t k
    refine A0 _ ?_
    refine XS.iloadN X0.here hx rfl (hb hby at_0) rfl ?_
    show Steps p.tables e below (s₁.setTop (mkF m 1 #[.val (.int xk), .unset, .unset, .unset] [(.int xk)])) _
    refine X0.ldcInt hx hown (mvT hZ (hw _ (List.mem_of_getElem? (i := 0) rfl))) (g := (mkF m 1 #[.val (.int xk), .unset, .unset, .unset] [(.int xk)])) rfl (hb hby at_1) _ ?_
    show Steps p.tables e below (s₁.setTop (mkF m 3 #[.val (.int xk), .unset, .unset, .unset] [(.int (2147483647 : Int32)), (.int xk)])) _
    refine XS.iand X0.here hx rfl (hb hby at_3) rfl ?_
    show Steps p.tables e below (s₁.setTop (mkF m 4 #[.val (.int xk), .unset, .unset, .unset] [(.int (xk &&& (2147483647 : Int32)))])) _
    refine XS.bipush X0.here hx rfl (hb hby at_4) ?_
    show Steps p.tables e below (s₁.setTop (mkF m 6 #[.val (.int xk), .unset, .unset, .unset] [(.int (9 : Int32)), (.int (xk &&& (2147483647 : Int32)))])) _
    refine iremM X0 hx rfl (hb hby at_6) rfl (by decide) ?_
    show Steps p.tables e below (s₁.setTop (mkF m 7 #[.val (.int xk), .unset, .unset, .unset] [(.int ((xk &&& (2147483647 : Int32)) % (9 : Int32)))])) _
    refine XS.istoreN X0.here hx rfl (hb hby at_7) rfl (l' := #[.val (.int xk), .val (.int ((xk &&& (2147483647 : Int32)) % (9 : Int32))), .unset, .unset]) rfl ?_
    show Steps p.tables e below (s₁.setTop (mkF m 8 #[.val (.int xk), .val (.int ((xk &&& (2147483647 : Int32)) % (9 : Int32))), .unset, .unset] [])) _
    refine XS.iloadN X0.here hx rfl (hb hby at_8) rfl ?_
    show Steps p.tables e below (s₁.setTop (mkF m 9 #[.val (.int xk), .val (.int ((xk &&& (2147483647 : Int32)) % (9 : Int32))), .unset, .unset] [(.int ((xk &&& (2147483647 : Int32)) % (9 : Int32)))])) _
    exact k
  obtain ⟨_, _, ⟨T81, L81, k81, n81⟩, -, X81, ⟨Lc81, hQ81, l81, y81, z81⟩, st81⟩ := Jvm.LawKit.callS X0 hx (y := (⟨"com/example/firm_demarcation/firmdemarcation/transactions/StatusIsRunningPinLaw", "pick", "(I)Lcom/example/firm_demarcation/firmdemarcation/transactions/Transaction$Status;"⟩ : MethodName)) hown (mvT hZ (hw _ (List.mem_of_getElem? (i := 1) rfl))) (mvT hZ (hw _ (List.mem_of_getElem? (i := 2) rfl))) (mvT hZ (hw _ (List.mem_of_getElem? (i := 3) rfl))) (mvT hZ (hw _ (List.mem_of_getElem? (i := 4) rfl))) (by decide) (backOf (W := 0) (own_pick l Z a0 hw [] ((xk &&& (2147483647 : Int32)) % (9 : Int32)) v0 v1 v2 v3 v4 v5 v6 v7 v8 h0 n0 Z0 S0 S1 S2 S3 S4 S5 S6 S7 S8) hZ (hw _ (List.mem_of_getElem? (i := 4) rfl)) (hw _ (List.mem_of_getElem? (i := 3) rfl)) (by decide) (by decide)) (g := (mkF m 9 #[.val (.int xk), .val (.int ((xk &&& (2147483647 : Int32)) % (9 : Int32))), .unset, .unset] [(.int ((xk &&& (2147483647 : Int32)) % (9 : Int32)))])) rfl (by rw [hml]; rfl) (argsL := [(.int ((xk &&& (2147483647 : Int32)) % (9 : Int32)))]) (rest := []) (lenOf own_pd0 rfl) rfl (by show 2 * 0 + _ ≤ _; exact Nat.le_of_eq rfl) (hb hby at_9) (fun _ _ => ⟨rfl, e0, (by decide : 0 + 0 ≤ _), (by decide : 0 + 0 ≤ _)⟩)
  dsimp only [Pt.U, Pt.locs, Pt.cells, Pt.slots] at X81 l81 y81 z81 st81 hQ81
  subst l81 y81 z81
  obtain ⟨rfl, Nq81, eh81⟩ := hQ81
  have Nf82 := Fr.app N0 Nq81
  have A83 : ∀ t, Steps p.tables e below (T81.setTop (mkF m 14 #[.val (.int xk), .val (.int ((xk &&& (2147483647 : Int32)) % (9 : Int32))), .val (.ref (own_pickA ((xk &&& (2147483647 : Int32)) % (9 : Int32)) v0 v1 v2 v3 v4 v5 v6 v7 v8)), .unset] [(.int ((xk &&& (2147483647 : Int32)) % (9 : Int32)))])) t → Steps p.tables e below (s₁.setTop (entryFrame m #[(.int xk)] maxLocals)) t := by
    intro t k
    refine A80 _ ?_
    refine st81 _ ?_
    show Steps p.tables e below (T81.setTop (mkF m 12 #[.val (.int xk), .val (.int ((xk &&& (2147483647 : Int32)) % (9 : Int32))), .unset, .unset] [(.ref (own_pickA ((xk &&& (2147483647 : Int32)) % (9 : Int32)) v0 v1 v2 v3 v4 v5 v6 v7 v8))])) _
    refine XS.astoreN X81.here hx rfl (hb hby at_12) rfl rfl (l' := #[.val (.int xk), .val (.int ((xk &&& (2147483647 : Int32)) % (9 : Int32))), .val (.ref (own_pickA ((xk &&& (2147483647 : Int32)) % (9 : Int32)) v0 v1 v2 v3 v4 v5 v6 v7 v8)), .unset]) rfl ?_
    show Steps p.tables e below (T81.setTop (mkF m 13 #[.val (.int xk), .val (.int ((xk &&& (2147483647 : Int32)) % (9 : Int32))), .val (.ref (own_pickA ((xk &&& (2147483647 : Int32)) % (9 : Int32)) v0 v1 v2 v3 v4 v5 v6 v7 v8)), .unset] [])) _
    refine XS.iloadN X81.here hx rfl (hb hby at_13) rfl ?_
    show Steps p.tables e below (T81.setTop (mkF m 14 #[.val (.int xk), .val (.int ((xk &&& (2147483647 : Int32)) % (9 : Int32))), .val (.ref (own_pickA ((xk &&& (2147483647 : Int32)) % (9 : Int32)) v0 v1 v2 v3 v4 v5 v6 v7 v8)), .unset] [(.int ((xk &&& (2147483647 : Int32)) % (9 : Int32)))])) _
    exact k
  obtain ⟨_, _, ⟨T84, L84, k84, n84⟩, -, X84, ⟨Lc84, hQ84, l84, y84, z84⟩, st84⟩ := Jvm.LawKit.callS X81 hx (y := (⟨"com/example/firm_demarcation/firmdemarcation/transactions/StatusIsRunningPinLaw", "runsStill", "(I)Z"⟩ : MethodName)) hown (mvT hZ (hw _ (List.mem_of_getElem? (i := 8) rfl))) (mvT hZ (hw _ (List.mem_of_getElem? (i := 9) rfl))) (mvT hZ (hw _ (List.mem_of_getElem? (i := 3) rfl))) (mvT hZ (hw _ (List.mem_of_getElem? (i := 10) rfl))) (by decide) (backOf (W := 0) (own_runsM l Z a0 hw [] ((xk &&& (2147483647 : Int32)) % (9 : Int32)) h0 n0 Z0) hZ (hw _ (List.mem_of_getElem? (i := 10) rfl)) (hw _ (List.mem_of_getElem? (i := 3) rfl)) (by decide) (by decide)) (g := (mkF m 14 #[.val (.int xk), .val (.int ((xk &&& (2147483647 : Int32)) % (9 : Int32))), .val (.ref (own_pickA ((xk &&& (2147483647 : Int32)) % (9 : Int32)) v0 v1 v2 v3 v4 v5 v6 v7 v8)), .unset] [(.int ((xk &&& (2147483647 : Int32)) % (9 : Int32)))])) rfl (by rw [hml]; rfl) (argsL := [(.int ((xk &&& (2147483647 : Int32)) % (9 : Int32)))]) (rest := []) (lenOf own_pd1 rfl) rfl (by show 2 * 0 + _ ≤ _; exact Nat.le_of_eq rfl) (hb hby at_14) (fun _ _ => ⟨rfl, eh81, (by decide : 0 + 0 ≤ _), (by decide : 0 + 0 ≤ _)⟩)
  dsimp only [Pt.U, Pt.locs, Pt.cells, Pt.slots] at X84 l84 y84 z84 st84 hQ84
  subst l84 y84 z84
  obtain ⟨rfl, Nq84, eh84⟩ := hQ84
  have Nf85 := Fr.app Nf82 Nq84
  have EA : Exa Z h0 (own_pickA ((xk &&& (2147483647 : Int32)) % (9 : Int32)) v0 v1 v2 v3 v4 v5 v6 v7 v8) "com/example/firm_demarcation/firmdemarcation/transactions/Transaction$Status" := by
    unfold own_pickA
    (repeat' split) <;> assumption
  have A86 : ∀ t, Steps p.tables e below (T84.setTop (mkF m 19 #[.val (.int xk), .val (.int ((xk &&& (2147483647 : Int32)) % (9 : Int32))), .val (.ref (own_pickA ((xk &&& (2147483647 : Int32)) % (9 : Int32)) v0 v1 v2 v3 v4 v5 v6 v7 v8)), .val (.int (own_runs ((xk &&& (2147483647 : Int32)) % (9 : Int32))))] [(.ref (own_pickA ((xk &&& (2147483647 : Int32)) % (9 : Int32)) v0 v1 v2 v3 v4 v5 v6 v7 v8))])) t → Steps p.tables e below (s₁.setTop (entryFrame m #[(.int xk)] maxLocals)) t := by
    intro t k
    refine A83 _ ?_
    refine st84 _ ?_
    show Steps p.tables e below (T84.setTop (mkF m 17 #[.val (.int xk), .val (.int ((xk &&& (2147483647 : Int32)) % (9 : Int32))), .val (.ref (own_pickA ((xk &&& (2147483647 : Int32)) % (9 : Int32)) v0 v1 v2 v3 v4 v5 v6 v7 v8)), .unset] [(.int (own_runs ((xk &&& (2147483647 : Int32)) % (9 : Int32))))])) _
    refine XS.istoreN X84.here hx rfl (hb hby at_17) rfl (l' := #[.val (.int xk), .val (.int ((xk &&& (2147483647 : Int32)) % (9 : Int32))), .val (.ref (own_pickA ((xk &&& (2147483647 : Int32)) % (9 : Int32)) v0 v1 v2 v3 v4 v5 v6 v7 v8)), .val (.int (own_runs ((xk &&& (2147483647 : Int32)) % (9 : Int32))))]) rfl ?_
    show Steps p.tables e below (T84.setTop (mkF m 18 #[.val (.int xk), .val (.int ((xk &&& (2147483647 : Int32)) % (9 : Int32))), .val (.ref (own_pickA ((xk &&& (2147483647 : Int32)) % (9 : Int32)) v0 v1 v2 v3 v4 v5 v6 v7 v8)), .val (.int (own_runs ((xk &&& (2147483647 : Int32)) % (9 : Int32))))] [])) _
    refine XS.aloadN X84.here hx rfl (hb hby at_18) rfl rfl ?_
    show Steps p.tables e below (T84.setTop (mkF m 19 #[.val (.int xk), .val (.int ((xk &&& (2147483647 : Int32)) % (9 : Int32))), .val (.ref (own_pickA ((xk &&& (2147483647 : Int32)) % (9 : Int32)) v0 v1 v2 v3 v4 v5 v6 v7 v8)), .val (.int (own_runs ((xk &&& (2147483647 : Int32)) % (9 : Int32))))] [(.ref (own_pickA ((xk &&& (2147483647 : Int32)) % (9 : Int32)) v0 v1 v2 v3 v4 v5 v6 v7 v8))])) _
    exact k
  obtain ⟨cq87, kq87, q87a, q87b, q87c⟩ := isOf hZ eh84 EA
  obtain ⟨_, _, ⟨T87, L87, k87, n87⟩, -, X87, ⟨Lc87, hQ87, l87, y87, z87⟩, st87⟩ := X84.virtualBack hx (y := (⟨"com/example/firm_demarcation/firmdemarcation/transactions/Transaction$Status", "isRunning", "()Z"⟩ : MethodName)) (z := (⟨"com/example/firm_demarcation/firmdemarcation/transactions/Transaction$Status", "isRunning", "()Z"⟩ : MethodName)) hown (mvT hZ (hw _ (List.mem_of_getElem? (i := 11) rfl))) (mvT hZ (hw _ (List.mem_of_getElem? (i := 12) rfl))) (notFace_of_selects (args := #[]) (mvT hZ (hw _ (List.mem_of_getElem? (i := 14) rfl)))) (mvT hZ (hw _ (List.mem_of_getElem? (i := 14) rfl))) (mvT hZ (hw _ (List.mem_of_getElem? (i := 13) rfl))) (by decide) (backOf (W := 0) (own_isr l Z a0 hw [] (own_pickA ((xk &&& (2147483647 : Int32)) % (9 : Int32)) v0 v1 v2 v3 v4 v5 v6 v7 v8) v0 v1 h0 n0 Z0 S0 S1) hZ (hw _ (List.mem_of_getElem? (i := 15) rfl)) (hw _ (List.mem_of_getElem? (i := 6) rfl)) (by decide) (by decide)) q87a q87c (g := (mkF m 19 #[.val (.int xk), .val (.int ((xk &&& (2147483647 : Int32)) % (9 : Int32))), .val (.ref (own_pickA ((xk &&& (2147483647 : Int32)) % (9 : Int32)) v0 v1 v2 v3 v4 v5 v6 v7 v8)), .val (.int (own_runs ((xk &&& (2147483647 : Int32)) % (9 : Int32))))] [(.ref (own_pickA ((xk &&& (2147483647 : Int32)) % (9 : Int32)) v0 v1 v2 v3 v4 v5 v6 v7 v8))])) rfl (by rw [hml]; rfl) (Steps.refl _) (argsL := []) (rest := []) (lenOf own_pd2 rfl) rfl (by show 2 * 0 + _ ≤ _; exact Nat.le_of_eq rfl) (hb hby at_19) (fun _ _ => ⟨rfl, eh84, (by decide : 0 + 0 ≤ _), (by decide : 0 + 0 ≤ _)⟩)
  dsimp only [Pt.U, Pt.locs, Pt.cells, Pt.slots] at X87 l87 y87 z87 st87 hQ87
  subst l87 y87 z87
  obtain ⟨rfl, Nq87, eh87⟩ := hQ87
  have Nf88 := Fr.app Nf85 Nq87
  have A89 : ∀ t, Steps p.tables e below (T87.setTop (mkF m 23 #[.val (.int xk), .val (.int ((xk &&& (2147483647 : Int32)) % (9 : Int32))), .val (.ref (own_pickA ((xk &&& (2147483647 : Int32)) % (9 : Int32)) v0 v1 v2 v3 v4 v5 v6 v7 v8)), .val (.int (own_runs ((xk &&& (2147483647 : Int32)) % (9 : Int32))))] [(.int (own_runs ((xk &&& (2147483647 : Int32)) % (9 : Int32)))), (.int (if (own_pickA ((xk &&& (2147483647 : Int32)) % (9 : Int32)) v0 v1 v2 v3 v4 v5 v6 v7 v8) = v0 then (1 : Int32) else if (own_pickA ((xk &&& (2147483647 : Int32)) % (9 : Int32)) v0 v1 v2 v3 v4 v5 v6 v7 v8) = v1 then (1 : Int32) else 0))])) t → Steps p.tables e below (s₁.setTop (entryFrame m #[(.int xk)] maxLocals)) t := by
    intro t k
    refine A86 _ ?_
    refine st87.trans ?_
    show Steps p.tables e below (T87.setTop (mkF m 22 #[.val (.int xk), .val (.int ((xk &&& (2147483647 : Int32)) % (9 : Int32))), .val (.ref (own_pickA ((xk &&& (2147483647 : Int32)) % (9 : Int32)) v0 v1 v2 v3 v4 v5 v6 v7 v8)), .val (.int (own_runs ((xk &&& (2147483647 : Int32)) % (9 : Int32))))] [(.int (if (own_pickA ((xk &&& (2147483647 : Int32)) % (9 : Int32)) v0 v1 v2 v3 v4 v5 v6 v7 v8) = v0 then (1 : Int32) else if (own_pickA ((xk &&& (2147483647 : Int32)) % (9 : Int32)) v0 v1 v2 v3 v4 v5 v6 v7 v8) = v1 then (1 : Int32) else 0))])) _
    refine XS.iloadN X87.here hx rfl (hb hby at_22) rfl ?_
    show Steps p.tables e below (T87.setTop (mkF m 23 #[.val (.int xk), .val (.int ((xk &&& (2147483647 : Int32)) % (9 : Int32))), .val (.ref (own_pickA ((xk &&& (2147483647 : Int32)) % (9 : Int32)) v0 v1 v2 v3 v4 v5 v6 v7 v8)), .val (.int (own_runs ((xk &&& (2147483647 : Int32)) % (9 : Int32))))] [(.int (own_runs ((xk &&& (2147483647 : Int32)) % (9 : Int32)))), (.int (if (own_pickA ((xk &&& (2147483647 : Int32)) % (9 : Int32)) v0 v1 v2 v3 v4 v5 v6 v7 v8) = v0 then (1 : Int32) else if (own_pickA ((xk &&& (2147483647 : Int32)) % (9 : Int32)) v0 v1 v2 v3 v4 v5 v6 v7 v8) = v1 then (1 : Int32) else 0))])) _
    exact k
  have hq : (if (own_pickA ((xk &&& (2147483647 : Int32)) % (9 : Int32)) v0 v1 v2 v3 v4 v5 v6 v7 v8) = v0 then (1 : Int32) else if (own_pickA ((xk &&& (2147483647 : Int32)) % (9 : Int32)) v0 v1 v2 v3 v4 v5 v6 v7 v8) = v1 then (1 : Int32) else 0) = (own_runs ((xk &&& (2147483647 : Int32)) % (9 : Int32))) := by
    by_cases hz : ((xk &&& (2147483647 : Int32)) % (9 : Int32)) = 0
    · simp [own_pickA, own_runs, hz]
    by_cases hz1 : ((xk &&& (2147483647 : Int32)) % (9 : Int32)) = 1
    · simp [own_pickA, own_runs, hz1]
    · have hne : (own_pickA ((xk &&& (2147483647 : Int32)) % (9 : Int32)) v0 v1 v2 v3 v4 v5 v6 v7 v8) ≠ v0 := by
        unfold own_pickA
        rw [if_neg hz, if_neg hz1]
        (repeat' split) <;> assumption
      have hne1 : (own_pickA ((xk &&& (2147483647 : Int32)) % (9 : Int32)) v0 v1 v2 v3 v4 v5 v6 v7 v8) ≠ v1 := by
        unfold own_pickA
        rw [if_neg hz, if_neg hz1]
        (repeat' split) <;> assumption
      rw [if_neg hne, if_neg hne1]
      unfold own_runs
      rw [if_neg hz, if_neg hz1]
  have A90 : ∀ t, Steps p.tables e below (T87.setTop (mkF m 31 #[.val (.int xk), .val (.int ((xk &&& (2147483647 : Int32)) % (9 : Int32))), .val (.ref (own_pickA ((xk &&& (2147483647 : Int32)) % (9 : Int32)) v0 v1 v2 v3 v4 v5 v6 v7 v8)), .val (.int (own_runs ((xk &&& (2147483647 : Int32)) % (9 : Int32))))] [(.int (1 : Int32))])) t → Steps p.tables e below (s₁.setTop (entryFrame m #[(.int xk)] maxLocals)) t := by
    intro t k
    refine A89 _ ?_
    refine XS.icmpNo X87.here hx rfl (hb hby at_23) rfl (teq hq).2 ?_
    show Steps p.tables e below (T87.setTop (mkF m 26 #[.val (.int xk), .val (.int ((xk &&& (2147483647 : Int32)) % (9 : Int32))), .val (.ref (own_pickA ((xk &&& (2147483647 : Int32)) % (9 : Int32)) v0 v1 v2 v3 v4 v5 v6 v7 v8)), .val (.int (own_runs ((xk &&& (2147483647 : Int32)) % (9 : Int32))))] [])) _
    refine XS.iconst X87.here hx rfl (hb hby at_26) ?_
    show Steps p.tables e below (T87.setTop (mkF m 27 #[.val (.int xk), .val (.int ((xk &&& (2147483647 : Int32)) % (9 : Int32))), .val (.ref (own_pickA ((xk &&& (2147483647 : Int32)) % (9 : Int32)) v0 v1 v2 v3 v4 v5 v6 v7 v8)), .val (.int (own_runs ((xk &&& (2147483647 : Int32)) % (9 : Int32))))] [(.int (1 : Int32))])) _
    refine XS.goto X87.here hx rfl (pc0 := 27) (pc' := 31) rfl (hb hby at_27) (by decide) (by decide) ?_
    show Steps p.tables e below (T87.setTop (mkF m 31 #[.val (.int xk), .val (.int ((xk &&& (2147483647 : Int32)) % (9 : Int32))), .val (.ref (own_pickA ((xk &&& (2147483647 : Int32)) % (9 : Int32)) v0 v1 v2 v3 v4 v5 v6 v7 v8)), .val (.int (own_runs ((xk &&& (2147483647 : Int32)) % (9 : Int32))))] [(.int (1 : Int32))])) _
    exact k
  obtain ⟨fs, hr, hrun, hended, hW, hsame⟩ := X87.leave (v := some (.int (1 : Int32))) (fun h => by rw [Bd.returns] at h; cases h)
  refine ⟨_, _, A90 _ ?_, hrun, hended, _, _, rfl, ?_, ⟨_, rfl⟩, hW, hsame.mono (by decide) (by decide)⟩
  · exact retN X87 hx (t := .boolean) Bd.returns (by simp) (hb hby at_31) hr
  · show own_Q0 Z xk h0 n0 _ T87.heap _
    rw [eh87]
    exact ⟨rfl, Nf88⟩
set_option maxRecDepth 65536 in
set_option maxHeartbeats 40000000 in
theorem comes_1 {Post : Tables → Env → Array Value → State → Outcome → State → Prop} (hpost : ∀ tb e args s v u, (limb_1_1.after args s (.returned v) u = true ∧ limb_1_2.after args s (.returned v) u = true ∧ True) → FrameEnd s (.returned v) u (Jvm.fieldLocs frame_1_writes args s ++ Jvm.arrayLocs frame_1_arrays args s ++ Jvm.staticLocs frame_1_statics s) 0 0 → Post tb e args s (.returned v) u) :
    ArmFor flags0 classFile x code maxLocals ret World_1 tables_1 room_1 Calls_1 rest_1 Pre_1 Post := by
  intro l hfl _ _ p e ha hc hk s m args below hf hA hF happ hP
  obtain ⟨hcalls, hrest, hpre⟩ := hP
  obtain ⟨-, -, -, hnamed, -, -, -, hat⟩ := (Spec.applies_iff hf).mp happ
  obtain ⟨hg, hn⟩ := and_e (Cond.before_iff.mp (show (Jvm.Cond.and given_1 narrow_1).before args s = true from hpre))
  obtain ⟨hcount, hg⟩ := and_e hg
  have ga0 := hg
  obtain ⟨w0, rfl⟩ : ∃ w0 : Value, args = #[w0] := by
    have hs : args.size = 1 := by simpa [Cond.value, given_1] using hcount
    obtain ⟨L⟩ := args
    match L, hs with
    | [w0], _ => exact ⟨w0, rfl⟩
  have hw := fun d (hd : d ∈ tables_1) => atoms_spec (ws := Jvm.Cond.code x code maxLocals ret :: tables_1) hat d (List.mem_cons_of_mem _ hd)
  have hfit : Fit s := fun {y c} hc i hi => by
    obtain ⟨ha, rfl⟩ := Array.getElem?_eq_some_iff.mp hc
    have q := List.all_eq_true.mp ((Array.all_eq_true_iff_forall_mem.mp hF) _ (Array.getElem_mem ha)) i (List.mem_range.mpr hi)
    simpa [Array.getElem?_eq_getElem hi] using q
  obtain ⟨i0, ei0⟩ := is_v ga0
  obtain rfl : w0 = (.int i0) := Option.some.inj ei0
  obtain ⟨c0, hn⟩ := and_e hn
  obtain ⟨c1, hn⟩ := and_e hn
  obtain ⟨c2, hn⟩ := and_e hn
  obtain ⟨c3, hn⟩ := and_e hn
  obtain ⟨c4, hn⟩ := and_e hn
  obtain ⟨c5, hn⟩ := and_e hn
  obtain ⟨c6, hn⟩ := and_e hn
  obtain ⟨c7, hn⟩ := and_e hn
  obtain ⟨c8, hn⟩ := and_e hn
  obtain ⟨c9, hn⟩ := and_e hn
  obtain ⟨c10, hn⟩ := and_e hn
  obtain ⟨c11, hn⟩ := and_e hn
  obtain ⟨c12, hn⟩ := and_e hn
  obtain ⟨c13, hn⟩ := and_e hn
  obtain ⟨c14, hn⟩ := and_e hn
  obtain ⟨c15, hn⟩ := and_e hn
  obtain ⟨c16, hn⟩ := and_e hn
  have c17 := hn
  obtain ⟨v0, ev0⟩ := exa_v c0
  have E0 := Exa.start ev0 c0
  have S0 := Sta.start ev0 (Or.inr ⟨(hw _ (List.mem_of_getElem? (i := 6) rfl)), (hw _ (List.mem_of_getElem? (i := 7) rfl))⟩)
  obtain ⟨v3, ev3⟩ := exa_v c1
  have E3 := Exa.start ev3 c1
  have S3 := Sta.start ev3 (Or.inr ⟨(hw _ (List.mem_of_getElem? (i := 6) rfl)), (hw _ (List.mem_of_getElem? (i := 18) rfl))⟩)
  obtain ⟨v1, ev1⟩ := exa_v c4
  have E1 := Exa.start ev1 c4
  have S1 := Sta.start ev1 (Or.inr ⟨(hw _ (List.mem_of_getElem? (i := 6) rfl)), (hw _ (List.mem_of_getElem? (i := 20) rfl))⟩)
  obtain ⟨v2, ev2⟩ := exa_v c6
  have E2 := Exa.start ev2 c6
  have S2 := Sta.start ev2 (Or.inr ⟨(hw _ (List.mem_of_getElem? (i := 6) rfl)), (hw _ (List.mem_of_getElem? (i := 22) rfl))⟩)
  obtain ⟨v7, ev7⟩ := exa_v c8
  have E7 := Exa.start ev7 c8
  have S7 := Sta.start ev7 (Or.inr ⟨(hw _ (List.mem_of_getElem? (i := 6) rfl)), (hw _ (List.mem_of_getElem? (i := 25) rfl))⟩)
  obtain ⟨v4, ev4⟩ := exa_v c10
  have E4 := Exa.start ev4 c10
  have S4 := Sta.start ev4 (Or.inr ⟨(hw _ (List.mem_of_getElem? (i := 6) rfl)), (hw _ (List.mem_of_getElem? (i := 27) rfl))⟩)
  obtain ⟨v8, ev8⟩ := exa_v c12
  have E8 := Exa.start ev8 c12
  have S8 := Sta.start ev8 (Or.inr ⟨(hw _ (List.mem_of_getElem? (i := 6) rfl)), (hw _ (List.mem_of_getElem? (i := 29) rfl))⟩)
  obtain ⟨v6, ev6⟩ := exa_v c14
  have E6 := Exa.start ev6 c14
  have S6 := Sta.start ev6 (Or.inr ⟨(hw _ (List.mem_of_getElem? (i := 6) rfl)), (hw _ (List.mem_of_getElem? (i := 31) rfl))⟩)
  obtain ⟨v5, ev5⟩ := exa_v c16
  have E5 := Exa.start ev5 c16
  have S5 := Sta.start ev5 (Or.inr ⟨(hw _ (List.mem_of_getElem? (i := 6) rfl)), (hw _ (List.mem_of_getElem? (i := 33) rfl))⟩)
  have F3 := Fld.start ((fld_at ev3).symm.trans (Cond.eq_int (Cond.before_iff.mpr c2) rfl))
  have F0 := Fld.start ((fld_at ev0).symm.trans (Cond.eq_int (Cond.before_iff.mpr c3) rfl))
  have F1 := Fld.start ((fld_at ev1).symm.trans (Cond.eq_int (Cond.before_iff.mpr c5) rfl))
  have F2 := Fld.start ((fld_at ev2).symm.trans (Cond.eq_int (Cond.before_iff.mpr c7) rfl))
  have F7 := Fld.start ((fld_at ev7).symm.trans (Cond.eq_int (Cond.before_iff.mpr c9) rfl))
  have F4 := Fld.start ((fld_at ev4).symm.trans (Cond.eq_int (Cond.before_iff.mpr c11) rfl))
  have F8 := Fld.start ((fld_at ev8).symm.trans (Cond.eq_int (Cond.before_iff.mpr c13) rfl))
  have F6 := Fld.start ((fld_at ev6).symm.trans (Cond.eq_int (Cond.before_iff.mpr c15) rfl))
  have F5 := Fld.start ((fld_at ev5).symm.trans (Cond.eq_int (Cond.before_iff.mpr c17) rfl))
  have ne10 : v1 ≠ v0 := Fld.ne F1 F0 (fun q => absurd (Value.int.inj q) (by decide))
  have ne2a : v2 ≠ v0 := Fld.ne F2 F0 (fun q => absurd (Value.int.inj q) (by decide))
  have ne2b : v2 ≠ v1 := Fld.ne F2 F1 (fun q => absurd (Value.int.inj q) (by decide))
  have ne3a : v3 ≠ v0 := Fld.ne F3 F0 (fun q => absurd (Value.int.inj q) (by decide))
  have ne3b : v3 ≠ v1 := Fld.ne F3 F1 (fun q => absurd (Value.int.inj q) (by decide))
  have ne4a : v4 ≠ v0 := Fld.ne F4 F0 (fun q => absurd (Value.int.inj q) (by decide))
  have ne4b : v4 ≠ v1 := Fld.ne F4 F1 (fun q => absurd (Value.int.inj q) (by decide))
  have ne5a : v5 ≠ v0 := Fld.ne F5 F0 (fun q => absurd (Value.int.inj q) (by decide))
  have ne5b : v5 ≠ v1 := Fld.ne F5 F1 (fun q => absurd (Value.int.inj q) (by decide))
  have ne6a : v6 ≠ v0 := Fld.ne F6 F0 (fun q => absurd (Value.int.inj q) (by decide))
  have ne6b : v6 ≠ v1 := Fld.ne F6 F1 (fun q => absurd (Value.int.inj q) (by decide))
  have ne7a : v7 ≠ v0 := Fld.ne F7 F0 (fun q => absurd (Value.int.inj q) (by decide))
  have ne7b : v7 ≠ v1 := Fld.ne F7 F1 (fun q => absurd (Value.int.inj q) (by decide))
  have ne8a : v8 ≠ v0 := Fld.ne F8 F0 (fun q => absurd (Value.int.inj q) (by decide))
  have ne8b : v8 ≠ v1 := Fld.ne F8 F1 (fun q => absurd (Value.int.inj q) (by decide))
  obtain ⟨n, o, h1, h2, h3, _, L, rfl, ⟨rfl, N⟩, hq⟩ := own_law l s _ hw tables_1 i0 v0 v1 v2 v3 v4 v5 v6 v7 v8 s.heap s.heap.size (Nat.le_refl _) S0 S1 S2 S3 S4 S5 S6 S7 S8 E0 E1 E2 E3 E4 E5 E6 E7 E8 ne10 ne2a ne2b ne3a ne3b ne4a ne4b ne5a ne5b ne6a ne6b ne7a ne7b ne8a ne8b p e ha hc hk s m _ below hf ((Spec.applies_iff_loose hf).mp happ).1 ⟨rfl, State.Warmed39.refl s, rfl⟩ trivial
  refine ⟨n, _, h1, h2, h3, hpost _ _ _ _ _ _ ⟨Cond.after_iff.mpr rfl, Cond.after_iff.mpr (eq_i res_at (Term.int_eval (1)) rfl), trivial⟩ ⟨hq.1, hq.2.1, (hq.2.2.sift fun y hy => Or.inr (N y hy)).mono (by decide) (by decide)⟩⟩
theorem main_1_1 : Claimed_1_1 := comes_1 fun _ _ _ _ _ _ h hF => ⟨h.1, hF⟩
theorem main_1_2 : Claimed_1_2 := comes_1 fun _ _ _ _ _ _ h hF => ⟨h.2.1, hF⟩
end Jvm.Pilot.@@N@@
namespace Jvm.Pilot.@@N@@
open Jvm Jvm.ClassFile Sem Op Lib Jvm.Free Jvm.Stand Jvm.Pilot.@@N@@.Jvm.D
/-! MADE BY PROGRAM (witnessworld.py) out of the Statement's table words and the real class files: 12 classes; the members and pool entries that the words name. The judged class is class 1, her method 1. -/
namespace start1
open Jvm.ClassFile
def u (s : String) : CpInfo := .utf8 (stringToUtf16 s)
/-- a pool by its gaps: so many unusable entries, then the entry; so many at the end -/
def gap : Nat → List CpInfo → List CpInfo
  | 0, r => r
  | n + 1, r => .unusable :: gap n r
def poolList (es : List (Nat × CpInfo)) (last : Nat) : List CpInfo := es.foldr (fun e r => gap e.1 (e.2 :: r)) (gap last [])
def pool (es : List (Nat × CpInfo)) (last : Nat) : Array CpInfo := ⟨poolList es last⟩
def fileOf (pool : Array CpInfo) (this : Nat) (attrs : Array Attribute := #[]) (ms : Array MethodInfo := #[]) (fl : Nat := 33) (sup : Nat := 0) (ifs : Array Nat := #[]) (fds : Array FieldInfo := #[]) : ClassFile where
  minorVersion := 0
  majorVersion := 65
  constantPool := pool
  accessFlags := fl
  thisClass := this
  superClass := sup
  interfaces := ifs
  fields := fds
  methods := ms
  attributes := attrs
def plain (name : String) (sup : Option ClassId) : Class where
  name := name
  kind := .ordinary
  loader := none
  accessFlags := 33
  super := sup
  interfaces := #[]
  cf := none
  fields := #[]
  methods := #[]
  instanceTypes := #[]
  staticTypes := #[]
  resolved := #[]
  callSites := []
  init := .initialized
  statics := none
  mirror := none

def pool0 : Array CpInfo := pool [(5, u "<init>"), (0, u "()V"), (1, .class_ 10), (1, u "java/lang/Object")] 113

def k0m0 : Method := { name := "<init>", desc := "()V", sig := { parameters := [], returnType := none }, accessFlags := 1, code := none }
/-- java/lang/Object -/
def k0 : Class := { plain "java/lang/Object" none with
  accessFlags := 33
  interfaces := #[]
  cf := some (fileOf pool0 8 #[] #[{ accessFlags := 1, nameIndex := 5, descriptorIndex := 6, attributes := #[] }] 33 0 #[] #[])
  fields := #[]
  methods := #[k0m0]
  instanceTypes := #[]
  staticTypes := #[]
  resolved := Array.replicate 124 none
  statics := none }

def pool1 : Array CpInfo := pool [(2, .class_ 4), (1, u "java/lang/Object"), (0, u "<init>"), (0, u "()V"), (0, .integer 2147483647), (0, .methodref 9 10), (0, .class_ 11), (0, .nameAndType 12 13), (0, u "com/example/firm_demarcation/firmdemarcation/transactions/StatusIsRunningPinLaw"), (0, u "pick"), (0, u "(I)Lcom/example/firm_demarcation/firmdemarcation/transactions/Transaction$Status;"), (0, .methodref 9 15), (0, .nameAndType 16 17), (0, u "runsStill"), (0, u "(I)Z"), (0, .methodref 19 20), (0, .class_ 21), (0, .nameAndType 22 23), (0, u "com/example/firm_demarcation/firmdemarcation/transactions/Transaction$Status"), (0, u "isRunning"), (0, u "()Z"), (0, .fieldref 19 25), (0, .nameAndType 26 27), (0, u "ACTIVE"), (0, u "Lcom/example/firm_demarcation/firmdemarcation/transactions/Transaction$Status;"), (0, .fieldref 19 29), (0, .nameAndType 30 27), (0, u "MARKED_ROLLBACK_ONLY"), (0, .fieldref 19 32), (0, .nameAndType 33 27), (0, u "PREPARING"), (0, .fieldref 19 35), (0, .nameAndType 36 27), (0, u "PREPARED"), (0, .fieldref 19 38), (0, .nameAndType 39 27), (0, u "COMMITTING"), (0, .fieldref 19 41), (0, .nameAndType 42 27), (0, u "ROLLING_BACK"), (0, .fieldref 19 44), (0, .nameAndType 45 27), (0, u "COMMITTED"), (0, .fieldref 19 47), (0, .nameAndType 48 27), (0, u "ROLLED_BACK"), (0, .fieldref 19 50), (0, .nameAndType 51 27), (0, u "UNKNOWN"), (2, u "law")] 7

def k1m0 : Method := { name := "<init>", desc := "()V", sig := { parameters := [], returnType := none }, accessFlags := 2, code := none }
def k1c1 : Code := { maxStack := 2, maxLocals := 4, code := code, exceptionTable := #[], attributes := #[] }
def k1m1 : Method := { name := "law", desc := "(I)Z", sig := { parameters := [.int], returnType := some .boolean }, accessFlags := 9, code := some k1c1 }
def k1c2 : Code := { maxStack := 2, maxLocals := 1, code := method_3_code, exceptionTable := #[], attributes := #[] }
def k1m2 : Method := { name := "pick", desc := "(I)Lcom/example/firm_demarcation/firmdemarcation/transactions/Transaction$Status;", sig := { parameters := [.int], returnType := some (.object "com/example/firm_demarcation/firmdemarcation/transactions/Transaction$Status") }, accessFlags := 10, code := some k1c2 }
def k1c3 : Code := { maxStack := 2, maxLocals := 1, code := method_4_code, exceptionTable := #[], attributes := #[] }
def k1m3 : Method := { name := "runsStill", desc := "(I)Z", sig := { parameters := [.int], returnType := some .boolean }, accessFlags := 10, code := some k1c3 }
/-- com/example/firm_demarcation/firmdemarcation/transactions/StatusIsRunningPinLaw -/
def k1 : Class := { plain "com/example/firm_demarcation/firmdemarcation/transactions/StatusIsRunningPinLaw" (some 0) with
  accessFlags := 49
  interfaces := #[]
  cf := some (fileOf pool1 9 #[] #[{ accessFlags := 2, nameIndex := 5, descriptorIndex := 6, attributes := #[] }, { accessFlags := 9, nameIndex := 54, descriptorIndex := 17, attributes := #[] }, { accessFlags := 10, nameIndex := 12, descriptorIndex := 13, attributes := #[] }, { accessFlags := 10, nameIndex := 16, descriptorIndex := 17, attributes := #[] }] 49 2 #[] #[])
  fields := #[]
  methods := #[k1m0, k1m1, k1m2, k1m3]
  instanceTypes := #[]
  staticTypes := #[]
  resolved := Array.replicate 62 none
  statics := none }

def pool2 : Array CpInfo := pool [(1, .class_ 2), (0, u "java/lang/constant/Constable"), (0, .class_ 4), (0, u "java/lang/Object")] 6

/-- java/lang/constant/Constable -/
def k2 : Class := { plain "java/lang/constant/Constable" (some 0) with
  accessFlags := 1537
  interfaces := #[]
  cf := some (fileOf pool2 1 #[] #[] 1537 3 #[] #[])
  fields := #[]
  methods := #[]
  instanceTypes := #[]
  staticTypes := #[]
  resolved := Array.replicate 11 none
  statics := none }

def pool3 : Array CpInfo := pool [(1, .class_ 2), (0, u "java/lang/Comparable"), (0, .class_ 4), (0, u "java/lang/Object")] 7

/-- java/lang/Comparable -/
def k3 : Class := { plain "java/lang/Comparable" (some 0) with
  accessFlags := 1537
  interfaces := #[]
  cf := some (fileOf pool3 1 #[] #[] 1537 3 #[] #[])
  fields := #[]
  methods := #[]
  instanceTypes := #[]
  staticTypes := #[]
  resolved := Array.replicate 12 none
  statics := none }

def pool4 : Array CpInfo := pool [(1, .class_ 2), (0, u "java/io/Serializable"), (0, .class_ 4), (0, u "java/lang/Object")] 2

/-- java/io/Serializable -/
def k4 : Class := { plain "java/io/Serializable" (some 0) with
  accessFlags := 1537
  interfaces := #[]
  cf := some (fileOf pool4 1 #[] #[] 1537 3 #[] #[])
  fields := #[]
  methods := #[]
  instanceTypes := #[]
  staticTypes := #[]
  resolved := Array.replicate 7 none
  statics := none }

def pool5 : Array CpInfo := pool [(2, .class_ 4), (1, u "java/lang/Enum"), (0, u "name"), (0, u "Ljava/lang/String;"), (2, u "ordinal"), (0, u "I"), (1, .class_ 14), (1, u "java/lang/Object"), (4, u "hash"), (86, .class_ 108), (1, u "java/lang/Enum$EnumDesc"), (2, .class_ 112), (0, u "java/lang/constant/Constable"), (0, .class_ 114), (0, u "java/lang/Comparable"), (0, .class_ 116), (0, u "java/io/Serializable")] 87

/-- java/lang/Enum -/
def k5 : Class := { plain "java/lang/Enum" (some 0) with
  accessFlags := 1057
  interfaces := #[2, 3, 4]
  cf := some (fileOf pool5 2 #[.nestMembers #[106]] #[] 1057 12 #[111, 113, 115] #[{ accessFlags := 18, nameIndex := 5, descriptorIndex := 6, attributes := #[] }, { accessFlags := 18, nameIndex := 9, descriptorIndex := 10, attributes := #[] }, { accessFlags := 2, nameIndex := 19, descriptorIndex := 10, attributes := #[] }])
  fields := #[{ name := "name", type := (.object "java/lang/String"), accessFlags := 18, slot := 0, constantValue := 0 }, { name := "ordinal", type := .int, accessFlags := 18, slot := 1, constantValue := 0 }, { name := "hash", type := .int, accessFlags := 2, slot := 2, constantValue := 0 }]
  methods := #[]
  instanceTypes := #[(.object "java/lang/String"), .int, .int]
  staticTypes := #[]
  resolved := Array.replicate 204 none
  statics := none }

def pool6 : Array CpInfo := pool [(1, .class_ 2), (0, u "com/example/firm_demarcation/firmdemarcation/transactions/Transaction$Status"), (0, .fieldref 1 4), (0, .nameAndType 5 6), (0, u "ACTIVE"), (0, u "Lcom/example/firm_demarcation/firmdemarcation/transactions/Transaction$Status;"), (0, .fieldref 1 8), (0, .nameAndType 9 6), (0, u "MARKED_ROLLBACK_ONLY"), (2, u "PREPARING"), (2, u "PREPARED"), (2, u "COMMITTING"), (2, u "ROLLING_BACK"), (2, u "COMMITTED"), (2, u "ROLLED_BACK"), (2, u "UNKNOWN"), (2, u "$VALUES"), (0, u "[Lcom/example/firm_demarcation/firmdemarcation/transactions/Transaction$Status;"), (6, .class_ 43), (1, u "java/lang/Enum"), (27, u "isRunning"), (0, u "()Z"), (6, .class_ 80), (0, u "com/example/firm_demarcation/firmdemarcation/transactions/Transaction")] 2

def k6c0 : Code := { maxStack := 2, maxLocals := 1, code := prog_100_method_4_code, exceptionTable := #[], attributes := #[] }
def k6m0 : Method := { name := "isRunning", desc := "()Z", sig := { parameters := [], returnType := some .boolean }, accessFlags := 1, code := some k6c0 }
/-- com/example/firm_demarcation/firmdemarcation/transactions/Transaction$Status -/
def k6 : Class := { plain "com/example/firm_demarcation/firmdemarcation/transactions/Transaction$Status" (some 5) with
  accessFlags := 16433
  interfaces := #[]
  cf := some (fileOf pool6 1 #[.nestHost 79] #[{ accessFlags := 1, nameIndex := 71, descriptorIndex := 72, attributes := #[] }] 16433 41 #[] #[{ accessFlags := 16409, nameIndex := 5, descriptorIndex := 6, attributes := #[] }, { accessFlags := 16409, nameIndex := 9, descriptorIndex := 6, attributes := #[] }, { accessFlags := 16409, nameIndex := 12, descriptorIndex := 6, attributes := #[] }, { accessFlags := 16409, nameIndex := 15, descriptorIndex := 6, attributes := #[] }, { accessFlags := 16409, nameIndex := 18, descriptorIndex := 6, attributes := #[] }, { accessFlags := 16409, nameIndex := 21, descriptorIndex := 6, attributes := #[] }, { accessFlags := 16409, nameIndex := 24, descriptorIndex := 6, attributes := #[] }, { accessFlags := 16409, nameIndex := 27, descriptorIndex := 6, attributes := #[] }, { accessFlags := 16409, nameIndex := 30, descriptorIndex := 6, attributes := #[] }, { accessFlags := 4122, nameIndex := 33, descriptorIndex := 34, attributes := #[] }])
  fields := #[{ name := "ACTIVE", type := (.object "com/example/firm_demarcation/firmdemarcation/transactions/Transaction$Status"), accessFlags := 16409, slot := 0, constantValue := 0 }, { name := "MARKED_ROLLBACK_ONLY", type := (.object "com/example/firm_demarcation/firmdemarcation/transactions/Transaction$Status"), accessFlags := 16409, slot := 1, constantValue := 0 }, { name := "PREPARING", type := (.object "com/example/firm_demarcation/firmdemarcation/transactions/Transaction$Status"), accessFlags := 16409, slot := 2, constantValue := 0 }, { name := "PREPARED", type := (.object "com/example/firm_demarcation/firmdemarcation/transactions/Transaction$Status"), accessFlags := 16409, slot := 3, constantValue := 0 }, { name := "COMMITTING", type := (.object "com/example/firm_demarcation/firmdemarcation/transactions/Transaction$Status"), accessFlags := 16409, slot := 4, constantValue := 0 }, { name := "ROLLING_BACK", type := (.object "com/example/firm_demarcation/firmdemarcation/transactions/Transaction$Status"), accessFlags := 16409, slot := 5, constantValue := 0 }, { name := "COMMITTED", type := (.object "com/example/firm_demarcation/firmdemarcation/transactions/Transaction$Status"), accessFlags := 16409, slot := 6, constantValue := 0 }, { name := "ROLLED_BACK", type := (.object "com/example/firm_demarcation/firmdemarcation/transactions/Transaction$Status"), accessFlags := 16409, slot := 7, constantValue := 0 }, { name := "UNKNOWN", type := (.object "com/example/firm_demarcation/firmdemarcation/transactions/Transaction$Status"), accessFlags := 16409, slot := 8, constantValue := 0 }, { name := "$VALUES", type := (.array (.object "com/example/firm_demarcation/firmdemarcation/transactions/Transaction$Status")), accessFlags := 4122, slot := 9, constantValue := 0 }]
  methods := #[k6m0]
  instanceTypes := #[(.object "java/lang/String"), .int, .int]
  staticTypes := #[(.object "com/example/firm_demarcation/firmdemarcation/transactions/Transaction$Status"), (.object "com/example/firm_demarcation/firmdemarcation/transactions/Transaction$Status"), (.object "com/example/firm_demarcation/firmdemarcation/transactions/Transaction$Status"), (.object "com/example/firm_demarcation/firmdemarcation/transactions/Transaction$Status"), (.object "com/example/firm_demarcation/firmdemarcation/transactions/Transaction$Status"), (.object "com/example/firm_demarcation/firmdemarcation/transactions/Transaction$Status"), (.object "com/example/firm_demarcation/firmdemarcation/transactions/Transaction$Status"), (.object "com/example/firm_demarcation/firmdemarcation/transactions/Transaction$Status"), (.object "com/example/firm_demarcation/firmdemarcation/transactions/Transaction$Status"), (.array (.object "com/example/firm_demarcation/firmdemarcation/transactions/Transaction$Status"))]
  resolved := Array.replicate 83 none
  statics := some 0 }

def pool7 : Array CpInfo := pool [(1, u "java/lang/Cloneable"), (0, .class_ 1), (0, u "java/lang/Object"), (0, .class_ 3)] 3

/-- java/lang/Cloneable -/
def k7 : Class := { plain "java/lang/Cloneable" (some 0) with
  accessFlags := 1537
  interfaces := #[]
  cf := some (fileOf pool7 2 #[] #[] 1537 4 #[] #[])
  fields := #[]
  methods := #[]
  instanceTypes := #[]
  staticTypes := #[]
  resolved := Array.replicate 8 none
  statics := none }

/-- the primitive byte -/
def k8 : Class := { plain "byte" none with kind := .primitive 'B', accessFlags := 0x411 }
/-- [B -/
def k9 : Class := { plain "[B" (some 0) with kind := .array 8 .byte, interfaces := #[7, 4], accessFlags := 1041 }

/-- the primitive int -/
def k10 : Class := { plain "int" none with kind := .primitive 'I', accessFlags := 0x411 }
/-- [I -/
def k11 : Class := { plain "[I" (some 0) with kind := .array 10 .int, interfaces := #[7, 4], accessFlags := 1041 }

def heap : Heap := #[{ cls := 6, slots := #[.ref 1, .ref 2, .ref 3, .ref 4, .ref 5, .ref 6, .ref 7, .ref 8, .ref 9, .null], vm := .statics 6 },
  { cls := 6, slots := #[.null, .int 0, .int 0], vm := .none },
  { cls := 6, slots := #[.null, .int 1, .int 0], vm := .none },
  { cls := 6, slots := #[.null, .int 2, .int 0], vm := .none },
  { cls := 6, slots := #[.null, .int 3, .int 0], vm := .none },
  { cls := 6, slots := #[.null, .int 4, .int 0], vm := .none },
  { cls := 6, slots := #[.null, .int 5, .int 0], vm := .none },
  { cls := 6, slots := #[.null, .int 6, .int 0], vm := .none },
  { cls := 6, slots := #[.null, .int 7, .int 0], vm := .none },
  { cls := 6, slots := #[.null, .int 8, .int 0], vm := .none }]
def classes : Array Class := #[k0, k1, k2, k3, k4, k5, k6, k7, k8, k9, k10, k11]
def interned : List (Array UInt16 × Addr) := []
def slotsUsed : Nat := 37
def theMethod : MethodId := ⟨1, 1⟩
def args0 : Array Value := #[.int 5]
def aboutOver (below : List Frame) : State where
  vm := { classes := classes, interned := interned.toArray }
  heap := heap
  slotsUsed := slotsUsed
  threads := #[{ frames := .invoking theMethod args0 :: below }]
def below0 : List Frame := [.native { method := ⟨0, 0⟩, args := #[] }]
def about1 : State := aboutOver below0
def p0 : Program := .bare "" "" ""
def e0 : Env := launch0.env 0 0 0
theorem w_frames : about1.frames = Frame.invoking theMethod args0 :: below0 := rfl
set_option maxRecDepth 65536 in
theorem w_args : argsFit about1.vm theMethod args0 = true := by decide +kernel
set_option maxRecDepth 65536 in
theorem w_heap : heapFits about1 = true := by decide +kernel
set_option maxRecDepth 65536 in
theorem w_runnable : about1.curStatus? = some .runnable := by decide +kernel
set_option maxRecDepth 65536 in
theorem w_alone : about1.alone = true := by decide +kernel
set_option maxRecDepth 65536 in
theorem w_named : about1.methodNamed? x = some theMethod := by decide +kernel
set_option maxRecDepth 65536 in
theorem w_hears : about1.hears theMethod below0 = true := by decide +kernel
set_option maxRecDepth 65536 in
theorem w_ripe : about1.ripe theMethod args0 below0 = true := by decide +kernel
theorem w_running : about1.status = .running := rfl
set_option maxRecDepth 65536 in
theorem w_room : about1.hasRoom e0.platform room_1 = true :=
  launch0.hasRoom_least _ room_1 (by decide +kernel) (by decide +kernel) (by decide +kernel) (by decide +kernel) (by decide +kernel) (by decide +kernel)
theorem allAtoms_all (ts : List Jvm.Cond) (a : Array Jvm.Value) (st : Jvm.State) : (allAtoms ts).before a st = ts.all (fun c => c.before a st) := by
  induction ts with
  | nil => rfl
  | cons c t ih =>
    show (Jvm.Cond.and c (allAtoms t)).before a st = _
    rw [Jvm.Cond.before_and, ih, List.all_cons]
def words1 : List Jvm.Cond := Jvm.Cond.code x code maxLocals ret :: tables_1
/-- a 'code' word, met by the world's own term for the bytes: nothing is compared byte by byte -/
theorem code_word {y : MethodName} {bytes : ByteArray} {mx : Nat} {rt : Option FieldType} {a : Array Value} {s : State} {m : MethodId} {meth : Method} {c : Code} (h1 : s.methodNamed? y = some m) (h2 : s.vm.method? m = some meth) (h3 : meth.code = some c) (h4 : c.code = bytes)
    (h5 : (c.maxLocals == mx && c.exceptionTable.isEmpty && decide (c.maxStack ≤ mostOperands) && decide (meth.sig.returnType = rt) && !meth.locks && decide (parseMethodDescriptor y.desc = some meth.sig)) = true) : (Jvm.Cond.code y bytes mx rt).before a s = true := by
  simp only [Bool.and_eq_true, beq_iff_eq, Bool.not_eq_true', decide_eq_true_eq] at h5
  obtain ⟨⟨⟨⟨⟨g1, g2⟩, g3⟩, g4⟩, g5⟩, g6⟩ := h5
  simp [Cond.before, Cond.holds, Cond.value, h1, h2, h3, h4, g1, g2, g3, g4, g5, g6]
def isCode : Jvm.Cond → Bool
  | .code _ _ _ _ => true
  | _ => false
theorem all_split {L : List Jvm.Cond} {P : Jvm.Cond → Bool} (h1 : L.all (fun c => isCode c || P c) = true) (h2 : ∀ c ∈ L.filter isCode, P c = true) : L.all P = true := by
  refine List.all_eq_true.mpr fun c hc => ?_
  have h := List.all_eq_true.mp h1 c hc
  rcases Bool.eq_false_or_eq_true (isCode c) with hi | hi
  · exact h2 c (List.mem_filter.mpr ⟨hc, hi⟩)
  · simpa [hi] using h
set_option maxRecDepth 65536 in
theorem w_c0 : (Jvm.Cond.code x code maxLocals ret).before args0 about1 = true := code_word (m := ⟨1, 1⟩) (meth := k1m1) (c := k1c1) (by decide +kernel) rfl rfl rfl (by decide +kernel)
set_option maxRecDepth 65536 in
theorem w_c1 : (Jvm.Cond.code ({ cls := "com/example/firm_demarcation/firmdemarcation/transactions/StatusIsRunningPinLaw", name := "pick", desc := "(I)Lcom/example/firm_demarcation/firmdemarcation/transactions/Transaction$Status;" } : Jvm.MethodName) method_3_code (1 : Nat) (Option.some (Jvm.ClassFile.FieldType.object "com/example/firm_demarcation/firmdemarcation/transactions/Transaction$Status"))).before args0 about1 = true := code_word (m := ⟨1, 2⟩) (meth := k1m2) (c := k1c2) (by decide +kernel) rfl rfl rfl (by decide +kernel)
set_option maxRecDepth 65536 in
theorem w_c2 : (Jvm.Cond.code ({ cls := "com/example/firm_demarcation/firmdemarcation/transactions/StatusIsRunningPinLaw", name := "runsStill", desc := "(I)Z" } : Jvm.MethodName) method_4_code (1 : Nat) (Option.some Jvm.ClassFile.FieldType.boolean)).before args0 about1 = true := code_word (m := ⟨1, 3⟩) (meth := k1m3) (c := k1c3) (by decide +kernel) rfl rfl rfl (by decide +kernel)
set_option maxRecDepth 65536 in
theorem w_c3 : (Jvm.Cond.code ({ cls := "com/example/firm_demarcation/firmdemarcation/transactions/Transaction$Status", name := "isRunning", desc := "()Z" } : Jvm.MethodName) prog_100_method_4_code (1 : Nat) (Option.some Jvm.ClassFile.FieldType.boolean)).before args0 about1 = true := code_word (m := ⟨6, 0⟩) (meth := k6m0) (c := k6c0) (by decide +kernel) rfl rfl rfl (by decide +kernel)
def codes1 : List Jvm.Cond := [Jvm.Cond.code x code maxLocals ret, Jvm.Cond.code ({ cls := "com/example/firm_demarcation/firmdemarcation/transactions/StatusIsRunningPinLaw", name := "pick", desc := "(I)Lcom/example/firm_demarcation/firmdemarcation/transactions/Transaction$Status;" } : Jvm.MethodName) method_3_code (1 : Nat) (Option.some (Jvm.ClassFile.FieldType.object "com/example/firm_demarcation/firmdemarcation/transactions/Transaction$Status")), Jvm.Cond.code ({ cls := "com/example/firm_demarcation/firmdemarcation/transactions/StatusIsRunningPinLaw", name := "runsStill", desc := "(I)Z" } : Jvm.MethodName) method_4_code (1 : Nat) (Option.some Jvm.ClassFile.FieldType.boolean), Jvm.Cond.code ({ cls := "com/example/firm_demarcation/firmdemarcation/transactions/Transaction$Status", name := "isRunning", desc := "()Z" } : Jvm.MethodName) prog_100_method_4_code (1 : Nat) (Option.some Jvm.ClassFile.FieldType.boolean)]
set_option maxRecDepth 65536 in
theorem codes_eq : words1.filter isCode = codes1 := rfl
theorem w_codes : ∀ c ∈ words1.filter isCode, c.before args0 about1 = true := by
  rw [codes_eq]
  intro c hc
  simp only [codes1, List.mem_cons, List.not_mem_nil, or_false] at hc
  rcases hc with rfl | rfl | rfl | rfl
  · exact w_c0
  · exact w_c1
  · exact w_c2
  · exact w_c3
set_option maxRecDepth 65536 in
theorem w_t1 : (words1.take 24).all (fun c => isCode c || c.before args0 about1) = true := by decide +kernel
set_option maxRecDepth 65536 in
theorem w_t2 : (words1.drop 24).all (fun c => isCode c || c.before args0 about1) = true := by decide +kernel
theorem w_tables : (allAtoms (Jvm.Cond.code x code maxLocals ret :: tables_1)).before args0 about1 = true := by
  rw [allAtoms_all]
  show words1.all (fun c => c.before args0 about1) = true
  refine all_split ?_ w_codes
  rw [← List.take_append_drop 24 words1, List.all_append, w_t1, w_t2]
  rfl
set_option maxRecDepth 65536 in
theorem w_case : (Jvm.Cond.and given_1 narrow_1).before args0 about1 = true := by decide +kernel
theorem w_applies : (headSpec (Jvm.Cond.code x code maxLocals ret :: tables_1) room_1).applies x e0.platform about1 = true :=
  (Spec.applies_iff w_frames).mpr ⟨w_running, w_runnable, w_alone, w_named, w_hears, w_ripe, w_room, w_tables⟩
theorem atStart : AtStart classFile x code maxLocals ret World_1 tables_1 room_1 Calls_1 rest_1 Pre_1 launch0 p0 e0 about1 theMethod args0 below0 :=
  ⟨lists_1, trivial, launch0.admits_env _ _ _, launch0.least_env, fairChoices_fair.cas, fairChoices_fair.clock, w_frames, w_args, w_heap, w_applies, trivial, trivial, w_case⟩
end start1
theorem witness_1 : WitnessClaimed_1 := ⟨start1.p0, start1.e0, start1.about1, start1.theMethod, start1.args0, start1.below0, start1.atStart⟩
end Jvm.Pilot.@@N@@
