import JvmDerived
import JvmDerived.Pilot.@@N@@Statement
import JvmDerived.Pilot.@@N@@Code
set_option linter.unusedVariables false
set_option linter.unusedSimpArgs false
namespace Jvm.Pilot.@@N@@
open Jvm Jvm.ClassFile Sem Op Lib Jvm.Free Jvm.Stand Jvm.LawKit Jvm.RoadKit Bundle Jvm.Pilot.@@N@@.Jvm.D
section OwnRet
variable {p : Program} {l : Launch} {e : Env} {R : Room} {s : State} {m : MethodId} {args : Array Value} {below : List Frame} {meth : Method} {c : Code} {T : State} {locs : List Loc} {cells slots : Nat}
theorem own_retN (X : Stand p l e R s m args below meth c T locs cells slots) (hx : p.tables.exec = Jvm.exec) {pc : Nat} {Ls : Array Slot} {z : Int32} {t : FieldType} {rest : List Value} (hret : meth.sig.returnType = some t) (ht : t = .boolean ∨ t = .byte ∨ t = .char ∨ t = .short) (hz : nar t z = z)
    (hd : decode c.code pc = .ok (.ireturn, 1)) {fs : List Frame} (hl : ∀ (f : JFrame) (acts : List Action), f.method = m → f.locked = none → f.entered = [] → (doReturn e (T.setTop f) acts (some (.int z))).1 = T.setFrames fs) :
    Steps p.tables e below (T.setTop (mkF m pc Ls (.int z :: rest))) (T.setFrames fs) := retN X hx hret ht hd (by rw [hz]; exact hl)
theorem own_nb {z : Int32} (h : z = 0 ∨ z = 1) : nar .boolean z = z := by rcases h with rfl | rfl <;> rfl
end OwnRet
theorem own_ext {h0 h : Heap} (K : Keep h0 h []) : Ext h0 h := ⟨K.1, fun a c q => K.2.1 a c q nin0⟩
theorem di_0 : decode prog_10_method_1_code 0 = .ok (.aload_n 0, 1) := by decide +kernel
theorem di_1 : decode prog_10_method_1_code 1 = .ok (.invokespecial 1, 3) := by decide +kernel
theorem di_4 : decode prog_10_method_1_code 4 = .ok (.aload_n 0, 1) := by decide +kernel
theorem di_5 : decode prog_10_method_1_code 5 = .ok (.iload_n 1, 1) := by decide +kernel
theorem di_6 : decode prog_10_method_1_code 6 = .ok (.putfield 7, 3) := by decide +kernel
theorem di_9 : decode prog_10_method_1_code 9 = .ok (.return_, 1) := by decide +kernel
theorem dc_0 : decode prog_10_method_3_code 0 = .ok (.aload_n 0, 1) := by decide +kernel
theorem dc_1 : decode prog_10_method_3_code 1 = .ok (.getfield 7, 3) := by decide +kernel
theorem dc_4 : decode prog_10_method_3_code 4 = .ok (.ireturn, 1) := by decide +kernel
theorem dk_0 : decode prog_10_method_2_code 0 = .ok (.iload_n 0, 1) := by decide +kernel
theorem dk_1 : decode prog_10_method_2_code 1 = .ok (.ifCond .ge 12, 3) := by decide +kernel
theorem dk_4 : decode prog_10_method_2_code 4 = .ok (.new 13, 3) := by decide +kernel
theorem dk_7 : decode prog_10_method_2_code 7 = .ok (.dup, 1) := by decide +kernel
theorem dk_8 : decode prog_10_method_2_code 8 = .ok (.iload_n 0, 1) := by decide +kernel
theorem dk_9 : decode prog_10_method_2_code 9 = .ok (.invokespecial 15, 3) := by decide +kernel
theorem dk_12 : decode prog_10_method_2_code 12 = .ok (.athrow, 1) := by decide +kernel
theorem dk_13 : decode prog_10_method_2_code 13 = .ok (.iload_n 0, 1) := by decide +kernel
theorem dk_14 : decode prog_10_method_2_code 14 = .ok (.getstatic 18, 3) := by decide +kernel
theorem dk_17 : decode prog_10_method_2_code 17 = .ok (.getfield 7, 3) := by decide +kernel
theorem dk_20 : decode prog_10_method_2_code 20 = .ok (.if_icmp .ne 7, 3) := by decide +kernel
theorem dk_23 : decode prog_10_method_2_code 23 = .ok (.getstatic 18, 3) := by decide +kernel
theorem dk_26 : decode prog_10_method_2_code 26 = .ok (.areturn, 1) := by decide +kernel
theorem dk_27 : decode prog_10_method_2_code 27 = .ok (.iload_n 0, 1) := by decide +kernel
theorem dk_28 : decode prog_10_method_2_code 28 = .ok (.getstatic 22, 3) := by decide +kernel
theorem dk_31 : decode prog_10_method_2_code 31 = .ok (.getfield 7, 3) := by decide +kernel
theorem dk_34 : decode prog_10_method_2_code 34 = .ok (.if_icmp .ne 7, 3) := by decide +kernel
theorem dk_37 : decode prog_10_method_2_code 37 = .ok (.getstatic 22, 3) := by decide +kernel
theorem dk_40 : decode prog_10_method_2_code 40 = .ok (.areturn, 1) := by decide +kernel
theorem dk_41 : decode prog_10_method_2_code 41 = .ok (.new 8, 3) := by decide +kernel
theorem dk_44 : decode prog_10_method_2_code 44 = .ok (.dup, 1) := by decide +kernel
theorem dk_45 : decode prog_10_method_2_code 45 = .ok (.iload_n 0, 1) := by decide +kernel
theorem dk_46 : decode prog_10_method_2_code 46 = .ok (.invokespecial 25, 3) := by decide +kernel
theorem dk_49 : decode prog_10_method_2_code 49 = .ok (.areturn, 1) := by decide +kernel
theorem own_pn0 : plainName "com/example/ferrule/ferrule/com/HResult" = true := by first | (simp [plainName, overriddenIn]; done) | decide +kernel
theorem own_pn1 : plainName "com/example/ferrule/ferrule/com/HResultCheckPinLaw" = true := by first | (simp [plainName, overriddenIn]; done) | decide +kernel
theorem own_pd0 : parseMethodDescriptor "(I)V" = some ⟨[.int], none⟩ := by decide +kernel
theorem own_pd1 : parseMethodDescriptor "(I)Lcom/example/ferrule/ferrule/com/HResult;" = some ⟨[.int], some (.object "com/example/ferrule/ferrule/com/HResult")⟩ := by decide +kernel
theorem own_pd2 : parseMethodDescriptor "()I" = some ⟨[], some .int⟩ := by decide +kernel
def own_Qi (Z : State) (xa : Addr) (xi : Int32) (h0 : Heap) (n0 : Nat) (v : Option Value) (h : Heap) (L : List Loc) : Prop := v = none ∧ Fr n0 L ∧ Keep h0 h [xa] ∧ Exa Z h xa "com/example/ferrule/ferrule/com/HResult" ∧ Fld Z h xa "com/example/ferrule/ferrule/com/HResult" "code" "I" (.int xi)
theorem own_init_ef (m : MethodId) (x0 : Addr) (x1 : Int32) : entryFrame m #[(.ref x0), (.int x1)] 2 = mkF m 0 #[.val (.ref x0), .val (.int x1)] [] := by first | (simp [entryFrame, mkF, argsToLocals, Value.category]; done) | rfl
set_option maxRecDepth 65536 in
set_option maxHeartbeats 40000000 in
theorem own_init (l : Launch) (Z : State) (a0 : Array Value) (hw : ∀ d ∈ tables_1, d.before a0 Z = true) (ws : List Jvm.Cond) (xa : Addr) (xi : Int32) (h0 : Heap) (n0 : Nat) (Z0 : n0 ≤ h0.size) (F0 : Fld Z h0 xa "com/example/ferrule/ferrule/com/HResult" "code" "I" (.int (0 : Int32))) (E0 : Exa Z h0 xa "com/example/ferrule/ferrule/com/HResult") (g0 : n0 ≤ xa) :
    MetFree l (⟨"com/example/ferrule/ferrule/com/HResult", "<init>", "(I)V"⟩ : MethodName) (head1 (Jvm.Cond.code (⟨"com/example/ferrule/ferrule/com/HResult", "<init>", "(I)V"⟩ : MethodName) prog_10_method_1_code 2 none :: ws) ({ frames := 1, cells := 0, slots := 0, locals := 12 } : Room)) (fun a U => a = #[(.ref xa), (.int xi)] ∧ Z.Warmed39 U.vm ∧ U.heap = h0) (fun _ _ _ _ _ => True) (fun _ U o U' => ∃ v L, o = .returned v ∧ own_Qi Z xa xi h0 n0 v U'.heap L ∧ FrameEnd U o U' L ({ frames := 1, cells := 0, slots := 0, locals := 12 } : Room).cells ({ frames := 1, cells := 0, slots := 0, locals := 12 } : Room).slots) := by
  refine MetFree.of_bodySF (plainFor_of_name own_pn0) hisR ?_
  intro p e s m args below meth c s₁ Bd hml0 hP hK
  obtain ⟨rfl, hZ, hh⟩ := hP
  have hx := Bd.exec
  have hby := Bd.bytes
  have hml : c.maxLocals = 2 := hml0
  have hown : s.vm.findClass "com/example/ferrule/ferrule/com/HResult" = some m.cls := findClass_of_methodNamed Bd.named
  have hnm := (name_of_methodNamed Bd.named Bd.method).1
  have X0 : Stand p l e ({ frames := 1, cells := 0, slots := 0, locals := 12 } : Room) s m #[(.ref xa), (.int xi)] below meth c s₁ [] 0 0 := Stand.of_body Bd
  have e0 : s₁.heap = h0 := by rw [← hh, Bd.state]; rfl
  have N0 := Fr.nil n0
  have A0 : ∀ t, Steps p.tables e below (s₁.setTop (mkF m 0 #[.val (.ref xa), .val (.int xi)] [])) t → Steps p.tables e below (s₁.setTop (entryFrame m #[(.ref xa), (.int xi)] 2)) t := fun t k => castTop (own_init_ef m xa xi) k
  have A1 : ∀ t, Steps p.tables e below (s₁.setTop (mkF m 1 #[.val (.ref xa), .val (.int xi)] [(.ref xa)])) t → Steps p.tables e below (s₁.setTop (entryFrame m #[(.ref xa), (.int xi)] 2)) t := by
    intro t k
    refine A0 _ ?_
    refine XS.aloadN X0.here hx rfl (hb hby di_0) rfl rfl ?_
    show Steps p.tables e below (s₁.setTop (mkF m 1 #[.val (.ref xa), .val (.int xi)] [(.ref xa)])) _
    exact k
  obtain ⟨T2, X2, e2, st2⟩ := initO X0 hx hZ hown (hw _ (List.mem_of_getElem? (i := 22) rfl)) (hw _ (List.mem_of_getElem? (i := 23) rfl)) (hw _ (List.mem_of_getElem? (i := 24) rfl)) e0 (g := (mkF m 1 #[.val (.ref xa), .val (.int xi)] [(.ref xa)])) rfl (by rw [hml]; rfl) rfl (hb hby di_1) (by decide) (W := 0) (by show 2 * 0 + _ ≤ _; exact Nat.le_of_eq rfl) (by decide)
  have A3 : ∀ t, Steps p.tables e below (T2.setTop (mkF m 6 #[.val (.ref xa), .val (.int xi)] [(.int xi), (.ref xa)])) t → Steps p.tables e below (s₁.setTop (entryFrame m #[(.ref xa), (.int xi)] 2)) t := by
    intro t k
    refine A1 _ ?_
    refine st2 _ ?_
    show Steps p.tables e below (T2.setTop (mkF m 4 #[.val (.ref xa), .val (.int xi)] [])) _
    refine XS.aloadN X2.here hx rfl (hb hby di_4) rfl rfl ?_
    show Steps p.tables e below (T2.setTop (mkF m 5 #[.val (.ref xa), .val (.int xi)] [(.ref xa)])) _
    refine XS.iloadN X2.here hx rfl (hb hby di_5) rfl ?_
    show Steps p.tables e below (T2.setTop (mkF m 6 #[.val (.ref xa), .val (.int xi)] [(.int xi), (.ref xa)])) _
    exact k
  obtain ⟨T4, h4, X4, e4, W4, st4⟩ := putF X2 hx hZ hown (host := "") (Or.inl (hw _ (List.mem_of_getElem? (i := 6) rfl))) Via.refl e2 F0 E0 (Or.inr ⟨(hw _ (List.mem_of_getElem? (i := 7) rfl)), rfl, hnm⟩) (hw _ (List.mem_of_getElem? (i := 18) rfl)) (ty := .int) (by decide) rfl rfl (g := (mkF m 6 #[.val (.ref xa), .val (.int xi)] [(.int xi), (.ref xa)])) rfl rfl (hb hby di_6)
  have Ex5 := E0.wr W4
  have Fl6 := F0.same W4
  have Zs7 := Nat.le_trans Z0 (Keep.of_wr W4).1
  have Nf8 := Fr.snoc X4 N0 g0
  have Kp9 := (Keep.refl h0 [xa]).wr W4 (Or.inl (List.mem_of_getElem? (i := 0) rfl))
  have A10 : ∀ t, Steps p.tables e below (T4.setTop (mkF m 9 #[.val (.ref xa), .val (.int xi)] [])) t → Steps p.tables e below (s₁.setTop (entryFrame m #[(.ref xa), (.int xi)] 2)) t := by
    intro t k
    refine A3 _ ?_
    refine st4 _ ?_
    show Steps p.tables e below (T4.setTop (mkF m 9 #[.val (.ref xa), .val (.int xi)] [])) _
    exact k
  obtain ⟨fs, hr, hrun, hended, hW, hsame⟩ := X4.leave (v := none) (fun _ => rfl)
  refine ⟨_, _, A10 _ ?_, hrun, hended, _, _, rfl, ?_, ⟨_, rfl⟩, hW, hsame.mono (by decide) (by decide)⟩
  · exact X4.returnOut hx Bd.returns (hb hby di_9) hr
  · show own_Qi Z xa xi h0 n0 _ T4.heap _
    rw [e4]
    exact ⟨rfl, Nf8, Kp9, Ex5, Fl6⟩
def own_Qc (Z : State) (xa : Addr) (xi : Int32) (h0 : Heap) (n0 : Nat) (v : Option Value) (h : Heap) (L : List Loc) : Prop := v = some (.int xi) ∧ Fr n0 L ∧ h = h0
theorem own_code_ef (m : MethodId) (x0 : Addr) : entryFrame m #[(.ref x0)] 1 = mkF m 0 #[.val (.ref x0)] [] := by first | (simp [entryFrame, mkF, argsToLocals, Value.category]; done) | rfl
set_option maxRecDepth 65536 in
set_option maxHeartbeats 40000000 in
theorem own_code (l : Launch) (Z : State) (a0 : Array Value) (hw : ∀ d ∈ tables_1, d.before a0 Z = true) (ws : List Jvm.Cond) (xa : Addr) (xi : Int32) (h0 : Heap) (n0 : Nat) (Z0 : n0 ≤ h0.size) (F0 : Fld Z h0 xa "com/example/ferrule/ferrule/com/HResult" "code" "I" (.int xi)) :
    MetFree l (⟨"com/example/ferrule/ferrule/com/HResult", "code", "()I"⟩ : MethodName) (head1 (Jvm.Cond.code (⟨"com/example/ferrule/ferrule/com/HResult", "code", "()I"⟩ : MethodName) prog_10_method_3_code 1 (some .int) :: ws) ({ frames := 0, cells := 0, slots := 0, locals := 0 } : Room)) (fun a U => a = #[(.ref xa)] ∧ Z.Warmed39 U.vm ∧ U.heap = h0) (fun _ _ _ _ _ => True) (fun _ U o U' => ∃ v L, o = .returned v ∧ own_Qc Z xa xi h0 n0 v U'.heap L ∧ FrameEnd U o U' L ({ frames := 0, cells := 0, slots := 0, locals := 0 } : Room).cells ({ frames := 0, cells := 0, slots := 0, locals := 0 } : Room).slots) := by
  refine MetFree.of_bodySF (plainFor_of_name own_pn0) hisR ?_
  intro p e s m args below meth c s₁ Bd hml0 hP hK
  obtain ⟨rfl, hZ, hh⟩ := hP
  have hx := Bd.exec
  have hby := Bd.bytes
  have hml : c.maxLocals = 1 := hml0
  have hown : s.vm.findClass "com/example/ferrule/ferrule/com/HResult" = some m.cls := findClass_of_methodNamed Bd.named
  have hnm := (name_of_methodNamed Bd.named Bd.method).1
  have X0 : Stand p l e ({ frames := 0, cells := 0, slots := 0, locals := 0 } : Room) s m #[(.ref xa)] below meth c s₁ [] 0 0 := Stand.of_body Bd
  have e0 : s₁.heap = h0 := by rw [← hh, Bd.state]; rfl
  have N0 := Fr.nil n0
  have A0 : ∀ t, Steps p.tables e below (s₁.setTop (mkF m 0 #[.val (.ref xa)] [])) t → Steps p.tables e below (s₁.setTop (entryFrame m #[(.ref xa)] 1)) t := fun t k => castTop (own_code_ef m xa) k
  have A11 : ∀ t, Steps p.tables e below (s₁.setTop (mkF m 1 #[.val (.ref xa)] [(.ref xa)])) t → Steps p.tables e below (s₁.setTop (entryFrame m #[(.ref xa)] 1)) t := by
    intro t k
    refine A0 _ ?_
    refine XS.aloadN X0.here hx rfl (hb hby dc_0) rfl rfl ?_
    show Steps p.tables e below (s₁.setTop (mkF m 1 #[.val (.ref xa)] [(.ref xa)])) _
    exact k
  obtain ⟨T12, X12, e12, st12⟩ := getF X0 hx hZ hown (host := "") (Or.inl (hw _ (List.mem_of_getElem? (i := 6) rfl))) Via.refl e0 F0 (g := (mkF m 1 #[.val (.ref xa)] [(.ref xa)])) rfl rfl (hb hby dc_1)
  have A13 : ∀ t, Steps p.tables e below (T12.setTop (mkF m 4 #[.val (.ref xa)] [(.int xi)])) t → Steps p.tables e below (s₁.setTop (entryFrame m #[(.ref xa)] 1)) t := by
    intro t k
    refine A11 _ ?_
    refine st12 _ ?_
    show Steps p.tables e below (T12.setTop (mkF m 4 #[.val (.ref xa)] [(.int xi)])) _
    exact k
  obtain ⟨fs, hr, hrun, hended, hW, hsame⟩ := X12.leave (v := some (.int xi)) (fun h => by rw [Bd.returns] at h; cases h)
  refine ⟨_, _, A13 _ ?_, hrun, hended, _, _, rfl, ?_, ⟨_, rfl⟩, hW, hsame.mono (by decide) (by decide)⟩
  · exact retOut X12 hx Bd.returns rfl (Or.inl ⟨rfl, Or.inl rfl, _, rfl⟩) (hb hby dc_4) hr
  · show own_Qc Z xa xi h0 n0 _ T12.heap _
    rw [e12]
    exact ⟨rfl, N0, rfl⟩
def own_Qk (Z : State) (xi : Int32) (v0 v1 : Addr) (h0 : Heap) (n0 : Nat) (v : Option Value) (h : Heap) (L : List Loc) : Prop := ∃ r : Addr, v = some (.ref r) ∧ Fr n0 L ∧ n0 ≤ h.size ∧ Exa Z h r "com/example/ferrule/ferrule/com/HResult" ∧ Fld Z h r "com/example/ferrule/ferrule/com/HResult" "code" "I" (.int xi) ∧ Sta Z h "com/example/ferrule/ferrule/com/HResult" "S_OK" "Lcom/example/ferrule/ferrule/com/HResult;" (.ref v0) ∧ Sta Z h "com/example/ferrule/ferrule/com/HResult" "S_FALSE" "Lcom/example/ferrule/ferrule/com/HResult;" (.ref v1) ∧ (r = v0 ↔ xi = 0) ∧ (r = v1 ↔ xi = 1)
theorem own_check_ef (m : MethodId) (x0 : Int32) : entryFrame m #[(.int x0)] 1 = mkF m 0 #[.val (.int x0)] [] := by first | (simp [entryFrame, mkF, argsToLocals, Value.category]; done) | rfl
set_option maxRecDepth 65536 in
set_option maxHeartbeats 40000000 in
theorem own_check (l : Launch) (Z : State) (a0 : Array Value) (hw : ∀ d ∈ tables_1, d.before a0 Z = true) (ws : List Jvm.Cond) (xi : Int32) (v0 v1 : Addr) (h0 : Heap) (n0 : Nat) (Z0 : n0 ≤ h0.size) (hpos : ¬ xi < 0) (S0 : Sta Z h0 "com/example/ferrule/ferrule/com/HResult" "S_OK" "Lcom/example/ferrule/ferrule/com/HResult;" (.ref v0)) (S1 : Sta Z h0 "com/example/ferrule/ferrule/com/HResult" "S_FALSE" "Lcom/example/ferrule/ferrule/com/HResult;" (.ref v1)) (E0 : Exa Z h0 v0 "com/example/ferrule/ferrule/com/HResult") (E1 : Exa Z h0 v1 "com/example/ferrule/ferrule/com/HResult") (F0 : Fld Z h0 v0 "com/example/ferrule/ferrule/com/HResult" "code" "I" (.int (0 : Int32))) (F1 : Fld Z h0 v1 "com/example/ferrule/ferrule/com/HResult" "code" "I" (.int (1 : Int32))) (ne01 : v0 ≠ v1) :
    MetFree l (⟨"com/example/ferrule/ferrule/com/HResult", "check", "(I)Lcom/example/ferrule/ferrule/com/HResult;"⟩ : MethodName) (head1 (Jvm.Cond.code (⟨"com/example/ferrule/ferrule/com/HResult", "check", "(I)Lcom/example/ferrule/ferrule/com/HResult;"⟩ : MethodName) prog_10_method_2_code 1 (some (.object "com/example/ferrule/ferrule/com/HResult")) :: ws) ({ frames := 2, cells := 1, slots := 1, locals := 26 } : Room)) (fun a U => a = #[(.int xi)] ∧ Z.Warmed39 U.vm ∧ U.heap = h0) (fun _ _ _ _ _ => True) (fun _ U o U' => ∃ v L, o = .returned v ∧ own_Qk Z xi v0 v1 h0 n0 v U'.heap L ∧ FrameEnd U o U' L ({ frames := 2, cells := 1, slots := 1, locals := 26 } : Room).cells ({ frames := 2, cells := 1, slots := 1, locals := 26 } : Room).slots) := by
  refine MetFree.of_bodySF (plainFor_of_name own_pn0) hisR ?_
  intro p e s m args below meth c s₁ Bd hml0 hP hK
  obtain ⟨rfl, hZ, hh⟩ := hP
  have hx := Bd.exec
  have hby := Bd.bytes
  have hml : c.maxLocals = 1 := hml0
  have hown : s.vm.findClass "com/example/ferrule/ferrule/com/HResult" = some m.cls := findClass_of_methodNamed Bd.named
  have hnm := (name_of_methodNamed Bd.named Bd.method).1
  have X0 : Stand p l e ({ frames := 2, cells := 1, slots := 1, locals := 26 } : Room) s m #[(.int xi)] below meth c s₁ [] 0 0 := Stand.of_body Bd
  have e0 : s₁.heap = h0 := by rw [← hh, Bd.state]; rfl
  have N0 := Fr.nil n0
  have A0 : ∀ t, Steps p.tables e below (s₁.setTop (mkF m 0 #[.val (.int xi)] [])) t → Steps p.tables e below (s₁.setTop (entryFrame m #[(.int xi)] 1)) t := fun t k => castTop (own_check_ef m xi) k
  have A14 : ∀ t, Steps p.tables e below (s₁.setTop (mkF m 14 #[.val (.int xi)] [(.int xi)])) t → Steps p.tables e below (s₁.setTop (entryFrame m #[(.int xi)] 1)) t := by
    intro t k
    refine A0 _ ?_
    refine XS.iloadN X0.here hx rfl (hb hby dk_0) rfl ?_
    show Steps p.tables e below (s₁.setTop (mkF m 1 #[.val (.int xi)] [(.int xi)])) _
    refine XS.ifYes X0.here hx rfl (pc0 := 1) (pc' := 13) rfl (hb hby dk_1) rfl ((if0 _ _).trans (flt hpos).2.1) (by decide) (by decide) ?_
    show Steps p.tables e below (s₁.setTop (mkF m 13 #[.val (.int xi)] [])) _
    refine XS.iloadN X0.here hx rfl (hb hby dk_13) rfl ?_
    show Steps p.tables e below (s₁.setTop (mkF m 14 #[.val (.int xi)] [(.int xi)])) _
    exact k
  obtain ⟨T15, X15, e15, st15⟩ := getS2 X0 hx hZ hown (host := "") (Or.inl (hw _ (List.mem_of_getElem? (i := 4) rfl))) Via.refl e0 S0 (g := (mkF m 14 #[.val (.int xi)] [(.int xi)])) rfl (hb hby dk_14)
  have A16 : ∀ t, Steps p.tables e below (T15.setTop (mkF m 17 #[.val (.int xi)] [(.ref v0), (.int xi)])) t → Steps p.tables e below (s₁.setTop (entryFrame m #[(.int xi)] 1)) t := by
    intro t k
    refine A14 _ ?_
    refine st15 _ ?_
    show Steps p.tables e below (T15.setTop (mkF m 17 #[.val (.int xi)] [(.ref v0), (.int xi)])) _
    exact k
  obtain ⟨T17, X17, e17, st17⟩ := getF X15 hx hZ hown (host := "") (Or.inl (hw _ (List.mem_of_getElem? (i := 6) rfl))) Via.refl e15 F0 (g := (mkF m 17 #[.val (.int xi)] [(.ref v0), (.int xi)])) rfl rfl (hb hby dk_17)
  have A18 : ∀ t, Steps p.tables e below (T17.setTop (mkF m 20 #[.val (.int xi)] [(.int (0 : Int32)), (.int xi)])) t → Steps p.tables e below (s₁.setTop (entryFrame m #[(.int xi)] 1)) t := by
    intro t k
    refine A16 _ ?_
    refine st17 _ ?_
    show Steps p.tables e below (T17.setTop (mkF m 20 #[.val (.int xi)] [(.int (0 : Int32)), (.int xi)])) _
    exact k
  by_cases hz0 : xi = (0 : Int32)
  · have A19 : ∀ t, Steps p.tables e below (T17.setTop (mkF m 23 #[.val (.int xi)] [])) t → Steps p.tables e below (s₁.setTop (entryFrame m #[(.int xi)] 1)) t := by
      intro t k
      refine A18 _ ?_
      refine XS.icmpNo X17.here hx rfl (hb hby dk_20) rfl (teq hz0).2 ?_
      show Steps p.tables e below (T17.setTop (mkF m 23 #[.val (.int xi)] [])) _
      exact k
    obtain ⟨T20, X20, e20, st20⟩ := getS2 X17 hx hZ hown (host := "") (Or.inl (hw _ (List.mem_of_getElem? (i := 4) rfl))) Via.refl e17 S0 (g := (mkF m 23 #[.val (.int xi)] [])) rfl (hb hby dk_23)
    have A21 : ∀ t, Steps p.tables e below (T20.setTop (mkF m 26 #[.val (.int xi)] [(.ref v0)])) t → Steps p.tables e below (s₁.setTop (entryFrame m #[(.int xi)] 1)) t := by
      intro t k
      refine A19 _ ?_
      refine st20 _ ?_
      show Steps p.tables e below (T20.setTop (mkF m 26 #[.val (.int xi)] [(.ref v0)])) _
      exact k
    obtain ⟨fs, hr, hrun, hended, hW, hsame⟩ := X20.leave (v := some (.ref v0)) (fun h => by rw [Bd.returns] at h; cases h)
    refine ⟨_, _, A21 _ ?_, hrun, hended, _, _, rfl, ?_, ⟨_, rfl⟩, hW, hsame.mono (by decide) (by decide)⟩
    · exact retOut X20 hx Bd.returns rfl (Or.inr (Or.inr (Or.inr (Or.inr ⟨rfl, rfl, rfl⟩)))) (hb hby dk_26) hr
    · show own_Qk Z xi v0 v1 h0 n0 _ T20.heap _
      rw [e20]
      exact ⟨_, rfl, N0, Z0, E0, (by rw [hz0]; exact F0), S0, S1, (by simp [hz0]), (by simp [hz0, ne01])⟩
  · have A22 : ∀ t, Steps p.tables e below (T17.setTop (mkF m 28 #[.val (.int xi)] [(.int xi)])) t → Steps p.tables e below (s₁.setTop (entryFrame m #[(.int xi)] 1)) t := by
      intro t k
      refine A18 _ ?_
      refine XS.icmpYes X17.here hx rfl (pc0 := 20) (pc' := 27) rfl (hb hby dk_20) rfl (feq hz0).2 (by decide) (by decide) ?_
      show Steps p.tables e below (T17.setTop (mkF m 27 #[.val (.int xi)] [])) _
      refine XS.iloadN X17.here hx rfl (hb hby dk_27) rfl ?_
      show Steps p.tables e below (T17.setTop (mkF m 28 #[.val (.int xi)] [(.int xi)])) _
      exact k
    obtain ⟨T23, X23, e23, st23⟩ := getS2 X17 hx hZ hown (host := "") (Or.inl (hw _ (List.mem_of_getElem? (i := 16) rfl))) Via.refl e17 S1 (g := (mkF m 28 #[.val (.int xi)] [(.int xi)])) rfl (hb hby dk_28)
    have A24 : ∀ t, Steps p.tables e below (T23.setTop (mkF m 31 #[.val (.int xi)] [(.ref v1), (.int xi)])) t → Steps p.tables e below (s₁.setTop (entryFrame m #[(.int xi)] 1)) t := by
      intro t k
      refine A22 _ ?_
      refine st23 _ ?_
      show Steps p.tables e below (T23.setTop (mkF m 31 #[.val (.int xi)] [(.ref v1), (.int xi)])) _
      exact k
    obtain ⟨T25, X25, e25, st25⟩ := getF X23 hx hZ hown (host := "") (Or.inl (hw _ (List.mem_of_getElem? (i := 6) rfl))) Via.refl e23 F1 (g := (mkF m 31 #[.val (.int xi)] [(.ref v1), (.int xi)])) rfl rfl (hb hby dk_31)
    have A26 : ∀ t, Steps p.tables e below (T25.setTop (mkF m 34 #[.val (.int xi)] [(.int (1 : Int32)), (.int xi)])) t → Steps p.tables e below (s₁.setTop (entryFrame m #[(.int xi)] 1)) t := by
      intro t k
      refine A24 _ ?_
      refine st25 _ ?_
      show Steps p.tables e below (T25.setTop (mkF m 34 #[.val (.int xi)] [(.int (1 : Int32)), (.int xi)])) _
      exact k
    by_cases hz1 : xi = (1 : Int32)
    · have A27 : ∀ t, Steps p.tables e below (T25.setTop (mkF m 37 #[.val (.int xi)] [])) t → Steps p.tables e below (s₁.setTop (entryFrame m #[(.int xi)] 1)) t := by
        intro t k
        refine A26 _ ?_
        refine XS.icmpNo X25.here hx rfl (hb hby dk_34) rfl (teq hz1).2 ?_
        show Steps p.tables e below (T25.setTop (mkF m 37 #[.val (.int xi)] [])) _
        exact k
      obtain ⟨T28, X28, e28, st28⟩ := getS2 X25 hx hZ hown (host := "") (Or.inl (hw _ (List.mem_of_getElem? (i := 16) rfl))) Via.refl e25 S1 (g := (mkF m 37 #[.val (.int xi)] [])) rfl (hb hby dk_37)
      have A29 : ∀ t, Steps p.tables e below (T28.setTop (mkF m 40 #[.val (.int xi)] [(.ref v1)])) t → Steps p.tables e below (s₁.setTop (entryFrame m #[(.int xi)] 1)) t := by
        intro t k
        refine A27 _ ?_
        refine st28 _ ?_
        show Steps p.tables e below (T28.setTop (mkF m 40 #[.val (.int xi)] [(.ref v1)])) _
        exact k
      obtain ⟨fs, hr, hrun, hended, hW, hsame⟩ := X28.leave (v := some (.ref v1)) (fun h => by rw [Bd.returns] at h; cases h)
      refine ⟨_, _, A29 _ ?_, hrun, hended, _, _, rfl, ?_, ⟨_, rfl⟩, hW, hsame.mono (by decide) (by decide)⟩
      · exact retOut X28 hx Bd.returns rfl (Or.inr (Or.inr (Or.inr (Or.inr ⟨rfl, rfl, rfl⟩)))) (hb hby dk_40) hr
      · show own_Qk Z xi v0 v1 h0 n0 _ T28.heap _
        rw [e28]
        exact ⟨_, rfl, N0, Z0, E1, (by rw [hz1]; exact F1), S0, S1, (by simp [hz1, Ne.symm ne01]), (by simp [hz1])⟩
    · have A30 : ∀ t, Steps p.tables e below (T25.setTop (mkF m 41 #[.val (.int xi)] [])) t → Steps p.tables e below (s₁.setTop (entryFrame m #[(.int xi)] 1)) t := by
        intro t k
        refine A26 _ ?_
        refine XS.icmpYes X25.here hx rfl (pc0 := 34) (pc' := 41) rfl (hb hby dk_34) rfl (feq hz1).2 (by decide) (by decide) ?_
        show Steps p.tables e below (T25.setTop (mkF m 41 #[.val (.int xi)] [])) _
        exact k
      obtain ⟨T31, h31, X31, e31, E31, B31, D31, -, st31⟩ := newO X25 hx hZ hown (hw _ (List.mem_of_getElem? (i := 17) rfl)) (hw _ (List.mem_of_getElem? (i := 18) rfl)) (hw _ (List.mem_of_getElem? (i := 2) rfl)) e25 (g := (mkF m 41 #[.val (.int xi)] [])) rfl (hb hby dk_41) (by decide) (by decide)
      obtain ⟨b31, g31⟩ : ∃ z, z = h0.size := ⟨_, rfl⟩
      rw [← g31] at B31 D31 st31
      have ne32 := Nat.ne_of_lt (Nat.lt_of_lt_of_le E1.lt (Nat.le_of_eq g31.symm))
      have ne33 := Nat.ne_of_lt (Nat.lt_of_lt_of_le E0.lt (Nat.le_of_eq g31.symm))
      have ge34 := Nat.le_trans Z0 (Nat.le_of_eq g31.symm)
      have Ex35 := E0.ext E31
      have Ex36 := E1.ext E31
      have Fl37 := F0.ext E31
      have Fl38 := F1.ext E31
      have Sa39 := S0.ext E31
      have Sa40 := S1.ext E31
      have Zs41 := Nat.le_trans Z0 E31.1
      have Fl42 : Fld Z h31 b31 "com/example/ferrule/ferrule/com/HResult" "code" "I" (.int (0 : Int32)) := D31 (Or.inr (hw _ (List.mem_of_getElem? (i := 7) rfl))) (ty := .int) (by decide)
      have K0 : Keep h0 h31 [] := (Keep.refl h0 []).ext E31
      have szb : h0.size ≤ b31 := Nat.le_of_eq g31.symm
      have A43 : ∀ t, Steps p.tables e below (T31.setTop (mkF m 46 #[.val (.int xi)] [(.int xi), (.ref b31), (.ref b31)])) t → Steps p.tables e below (s₁.setTop (entryFrame m #[(.int xi)] 1)) t := by
        intro t k
        refine A30 _ ?_
        refine st31 _ ?_
        show Steps p.tables e below (T31.setTop (mkF m 44 #[.val (.int xi)] [(.ref b31)])) _
        refine XS.dup X31.here hx rfl (hb hby dk_44) rfl rfl ?_
        show Steps p.tables e below (T31.setTop (mkF m 45 #[.val (.int xi)] [(.ref b31), (.ref b31)])) _
        refine XS.iloadN X31.here hx rfl (hb hby dk_45) rfl ?_
        show Steps p.tables e below (T31.setTop (mkF m 46 #[.val (.int xi)] [(.int xi), (.ref b31), (.ref b31)])) _
        exact k
      obtain ⟨_, _, ⟨T44, L44, k44, n44⟩, -, X44, ⟨Lc44, hQ44, l44, y44, z44⟩, st44⟩ := X31.specialBack hx (y := (⟨"com/example/ferrule/ferrule/com/HResult", "<init>", "(I)V"⟩ : MethodName)) rfl hown (mvT hZ (hw _ (List.mem_of_getElem? (i := 19) rfl))) (mvT hZ (hw _ (List.mem_of_getElem? (i := 20) rfl))) (mvT hZ (hw _ (List.mem_of_getElem? (i := 21) rfl))) (by decide) (backOf (W := 1) (own_init l Z a0 hw [] b31 xi h31 n0 Zs41 Fl42 B31 ge34) hZ (hw _ (List.mem_of_getElem? (i := 21) rfl)) (hw _ (List.mem_of_getElem? (i := 2) rfl)) (by decide) (by decide)) (g := (mkF m 46 #[.val (.int xi)] [(.int xi), (.ref b31), (.ref b31)])) rfl (by rw [hml]; rfl) (Steps.refl _) (a := b31) (argsL := [(.int xi)]) (rest := [(.ref b31)]) (lenOf own_pd0 rfl) rfl (by show 2 * 0 + _ ≤ _; exact Nat.le_of_eq rfl) (hb hby dk_46) (fun _ _ => ⟨rfl, e31, (by decide : 1 + 0 ≤ _), (by decide : 1 + 0 ≤ _)⟩)
      dsimp only [Pt.U, Pt.locs, Pt.cells, Pt.slots] at X44 l44 y44 z44 st44 hQ44
      subst l44 y44 z44
      obtain ⟨rfl, Nq44, K44, E44, F44⟩ := hQ44
      have Nf45 := Fr.app N0 Nq44
      have K1 : Keep h0 T44.heap [] := K0.trans K44 (allS (Or.inr szb) all0)
      have X1 : Ext h0 T44.heap := own_ext K1
      have A46 : ∀ t, Steps p.tables e below (T44.setTop (mkF m 49 #[.val (.int xi)] [(.ref b31)])) t → Steps p.tables e below (s₁.setTop (entryFrame m #[(.int xi)] 1)) t := by
        intro t k
        refine A43 _ ?_
        refine st44.trans ?_
        show Steps p.tables e below (T44.setTop (mkF m 49 #[.val (.int xi)] [(.ref b31)])) _
        exact k
      obtain ⟨fs, hr, hrun, hended, hW, hsame⟩ := X44.leave (v := some (.ref b31)) (fun h => by rw [Bd.returns] at h; cases h)
      refine ⟨_, _, A46 _ ?_, hrun, hended, _, _, rfl, ?_, ⟨_, rfl⟩, hW, hsame.mono (by decide) (by decide)⟩
      · exact retOut X44 hx Bd.returns rfl (Or.inr (Or.inr (Or.inr (Or.inr ⟨rfl, rfl, rfl⟩)))) (hb hby dk_49) hr
      · show own_Qk Z xi v0 v1 h0 n0 _ T44.heap _
        exact ⟨_, rfl, Nf45, Nat.le_trans Z0 X1.1, E44, F44, S0.ext X1, S1.ext X1, (by simp [hz0, Ne.symm ne33]), (by simp [hz1, Ne.symm ne32])⟩
def own_Q0 (Z : State) (xx xy : Int32) (h0 : Heap) (n0 : Nat) (v : Option Value) (h : Heap) (L : List Loc) : Prop := v = some (.int 1) ∧ Fr n0 L
theorem own_law_ef (m : MethodId) (x0 : Int32) (x1 : Int32) : entryFrame m #[(.int x0), (.int x1)] maxLocals = mkF m 0 #[.val (.int x0), .val (.int x1), .unset, .unset, .unset, .unset] [] := by first | (simp [entryFrame, mkF, argsToLocals, Value.category, maxLocals]; done) | rfl
set_option maxRecDepth 65536 in
set_option maxHeartbeats 40000000 in
theorem own_law (l : Launch) (Z : State) (a0 : Array Value) (hw : ∀ d ∈ tables_1, d.before a0 Z = true) (ws : List Jvm.Cond) (xx xy : Int32) (v0 v1 : Addr) (h0 : Heap) (n0 : Nat) (Z0 : n0 ≤ h0.size) (S0 : Sta Z h0 "com/example/ferrule/ferrule/com/HResult" "S_OK" "Lcom/example/ferrule/ferrule/com/HResult;" (.ref v0)) (S1 : Sta Z h0 "com/example/ferrule/ferrule/com/HResult" "S_FALSE" "Lcom/example/ferrule/ferrule/com/HResult;" (.ref v1)) (E0 : Exa Z h0 v0 "com/example/ferrule/ferrule/com/HResult") (E1 : Exa Z h0 v1 "com/example/ferrule/ferrule/com/HResult") (F0 : Fld Z h0 v0 "com/example/ferrule/ferrule/com/HResult" "code" "I" (.int (0 : Int32))) (F1 : Fld Z h0 v1 "com/example/ferrule/ferrule/com/HResult" "code" "I" (.int (1 : Int32))) (ne01 : v0 ≠ v1) :
    MetFree l x (head1 (Jvm.Cond.code x code maxLocals ret :: ws) room_1) (fun a U => a = #[(.int xx), (.int xy)] ∧ Z.Warmed39 U.vm ∧ U.heap = h0) (fun _ _ _ _ _ => True) (fun _ U o U' => ∃ v L, o = .returned v ∧ own_Q0 Z xx xy h0 n0 v U'.heap L ∧ FrameEnd U o U' L room_1.cells room_1.slots) := by
  refine MetFree.of_bodySF (plainFor_of_name own_pn1) hisR ?_
  intro p e s m args below meth c s₁ Bd hml0 hP hK
  obtain ⟨rfl, hZ, hh⟩ := hP
  have hx := Bd.exec
  have hby := Bd.bytes
  have hml : c.maxLocals = 6 := hml0
  have hown : s.vm.findClass "com/example/ferrule/ferrule/com/HResultCheckPinLaw" = some m.cls := findClass_of_methodNamed Bd.named
  have hnm := (name_of_methodNamed Bd.named Bd.method).1
  have X0 : Stand p l e room_1 s m #[(.int xx), (.int xy)] below meth c s₁ [] 0 0 := Stand.of_body Bd
  have e0 : s₁.heap = h0 := by rw [← hh, Bd.state]; rfl
  have N0 := Fr.nil n0
  have A0 : ∀ t, Steps p.tables e below (s₁.setTop (mkF m 0 #[.val (.int xx), .val (.int xy), .unset, .unset, .unset, .unset] [])) t → Steps p.tables e below (s₁.setTop (entryFrame m #[(.int xx), (.int xy)] maxLocals)) t := fun t k => castTop (own_law_ef m xx xy) k
  have A47 : ∀ t, Steps p.tables e below (s₁.setTop (mkF m 3 #[.val (.int xx), .val (.int xy), .unset, .unset, .unset, .unset] [(.int (xy &&& (1 : Int32)))])) t → Steps p.tables e below (s₁.setTop (entryFrame m #[(.int xx), (.int xy)] maxLocals)) t := by
    intro t k
    refine A0 _ ?_
    refine XS.iloadN X0.here hx rfl (hb hby at_0) rfl ?_
    show Steps p.tables e below (s₁.setTop (mkF m 1 #[.val (.int xx), .val (.int xy), .unset, .unset, .unset, .unset] [(.int xy)])) _
    refine XS.iconst X0.here hx rfl (hb hby at_1) ?_
    show Steps p.tables e below (s₁.setTop (mkF m 2 #[.val (.int xx), .val (.int xy), .unset, .unset, .unset, .unset] [(.int (1 : Int32)), (.int xy)])) _
    refine XS.iand X0.here hx rfl (hb hby at_2) rfl ?_
    show Steps p.tables e below (s₁.setTop (mkF m 3 #[.val (.int xx), .val (.int xy), .unset, .unset, .unset, .unset] [(.int (xy &&& (1 : Int32)))])) _
    exact k
  obtain ⟨u49, hu49⟩ : ∃ u : Int32, u = (if (xy &&& (1 : Int32)) = (0 : Int32) then (xx &&& (2147483647 : Int32)) else (xx &&& (3 : Int32))) := ⟨_, rfl⟩
  have A50 : ∀ t, Steps p.tables e below (s₁.setTop (mkF m 18 #[.val (.int xx), .val (.int xy), .val (.int u49), .unset, .unset, .unset] [])) t → Steps p.tables e below (s₁.setTop (entryFrame m #[(.int xx), (.int xy)] maxLocals)) t := by
    intro t k
    refine A47 _ ?_
    by_cases hj48 : (xy &&& (1 : Int32)) = (0 : Int32)
    · refine XS.ifNo X0.here hx rfl (hb hby at_3) rfl ((if0 _ _).trans (teq hj48).2) ?_
      show Steps p.tables e below (s₁.setTop (mkF m 6 #[.val (.int xx), .val (.int xy), .unset, .unset, .unset, .unset] [])) _
      refine XS.iloadN X0.here hx rfl (hb hby at_6) rfl ?_
      show Steps p.tables e below (s₁.setTop (mkF m 7 #[.val (.int xx), .val (.int xy), .unset, .unset, .unset, .unset] [(.int xx)])) _
      refine X0.ldcInt hx hown (mvT hZ (hw _ (List.mem_of_getElem? (i := 25) rfl))) (g := (mkF m 7 #[.val (.int xx), .val (.int xy), .unset, .unset, .unset, .unset] [(.int xx)])) rfl (hb hby at_7) _ ?_
      show Steps p.tables e below (s₁.setTop (mkF m 9 #[.val (.int xx), .val (.int xy), .unset, .unset, .unset, .unset] [(.int (2147483647 : Int32)), (.int xx)])) _
      refine XS.iand X0.here hx rfl (hb hby at_9) rfl ?_
      show Steps p.tables e below (s₁.setTop (mkF m 10 #[.val (.int xx), .val (.int xy), .unset, .unset, .unset, .unset] [(.int (xx &&& (2147483647 : Int32)))])) _
      refine XS.istoreN X0.here hx rfl (hb hby at_10) rfl (l' := #[.val (.int xx), .val (.int xy), .val (.int (xx &&& (2147483647 : Int32))), .unset, .unset, .unset]) rfl ?_
      show Steps p.tables e below (s₁.setTop (mkF m 11 #[.val (.int xx), .val (.int xy), .val (.int (xx &&& (2147483647 : Int32))), .unset, .unset, .unset] [])) _
      refine XS.goto X0.here hx rfl (pc0 := 11) (pc' := 18) rfl (hb hby at_11) (by decide) (by decide) ?_
      show Steps p.tables e below (s₁.setTop (mkF m 18 #[.val (.int xx), .val (.int xy), .val (.int (xx &&& (2147483647 : Int32))), .unset, .unset, .unset] [])) _
      have qu49 : u49 = (xx &&& (2147483647 : Int32)) := by rw [hu49]; simp [hj48]
      rw [qu49] at k
      exact k
    · refine XS.ifYes X0.here hx rfl (pc0 := 3) (pc' := 14) rfl (hb hby at_3) rfl ((if0 _ _).trans (feq hj48).2) (by decide) (by decide) ?_
      show Steps p.tables e below (s₁.setTop (mkF m 14 #[.val (.int xx), .val (.int xy), .unset, .unset, .unset, .unset] [])) _
      refine XS.iloadN X0.here hx rfl (hb hby at_14) rfl ?_
      show Steps p.tables e below (s₁.setTop (mkF m 15 #[.val (.int xx), .val (.int xy), .unset, .unset, .unset, .unset] [(.int xx)])) _
      refine XS.iconst X0.here hx rfl (hb hby at_15) ?_
      show Steps p.tables e below (s₁.setTop (mkF m 16 #[.val (.int xx), .val (.int xy), .unset, .unset, .unset, .unset] [(.int (3 : Int32)), (.int xx)])) _
      refine XS.iand X0.here hx rfl (hb hby at_16) rfl ?_
      show Steps p.tables e below (s₁.setTop (mkF m 17 #[.val (.int xx), .val (.int xy), .unset, .unset, .unset, .unset] [(.int (xx &&& (3 : Int32)))])) _
      refine XS.istoreN X0.here hx rfl (hb hby at_17) rfl (l' := #[.val (.int xx), .val (.int xy), .val (.int (xx &&& (3 : Int32))), .unset, .unset, .unset]) rfl ?_
      show Steps p.tables e below (s₁.setTop (mkF m 18 #[.val (.int xx), .val (.int xy), .val (.int (xx &&& (3 : Int32))), .unset, .unset, .unset] [])) _
      have qu49 : u49 = (xx &&& (3 : Int32)) := by rw [hu49]; simp [hj48]
      rw [qu49] at k
      exact k
  have hpos : ¬ u49 < 0 := by
    rw [Int32.lt_iff_toInt_lt, show (0 : Int32).toInt = 0 from rfl, hu49]
    have m1 := c_and xx (2147483647 : Int32) (by decide)
    have m2 := c_and xx (3 : Int32) (by decide)
    split <;> omega
  have A51 : ∀ t, Steps p.tables e below (s₁.setTop (mkF m 19 #[.val (.int xx), .val (.int xy), .val (.int u49), .unset, .unset, .unset] [(.int u49)])) t → Steps p.tables e below (s₁.setTop (entryFrame m #[(.int xx), (.int xy)] maxLocals)) t := by
    intro t k
    refine A50 _ ?_
    refine XS.iloadN X0.here hx rfl (hb hby at_18) rfl ?_
    show Steps p.tables e below (s₁.setTop (mkF m 19 #[.val (.int xx), .val (.int xy), .val (.int u49), .unset, .unset, .unset] [(.int u49)])) _
    exact k
  obtain ⟨_, _, ⟨T52, L52, k52, n52⟩, -, X52, ⟨Lc52, hQ52, l52, y52, z52⟩, st52⟩ := Jvm.LawKit.callS X0 hx (y := (⟨"com/example/ferrule/ferrule/com/HResult", "check", "(I)Lcom/example/ferrule/ferrule/com/HResult;"⟩ : MethodName)) hown (mvT hZ (hw _ (List.mem_of_getElem? (i := 0) rfl))) (mvT hZ (hw _ (List.mem_of_getElem? (i := 1) rfl))) (mvT hZ (hw _ (List.mem_of_getElem? (i := 2) rfl))) (mvT hZ (hw _ (List.mem_of_getElem? (i := 3) rfl))) (by decide) (backOf (W := 0) (own_check l Z a0 hw [] u49 v0 v1 h0 n0 Z0 hpos S0 S1 E0 E1 F0 F1 ne01) hZ (hw _ (List.mem_of_getElem? (i := 3) rfl)) (hw _ (List.mem_of_getElem? (i := 2) rfl)) (by decide) (by decide)) (g := (mkF m 19 #[.val (.int xx), .val (.int xy), .val (.int u49), .unset, .unset, .unset] [(.int u49)])) rfl (by rw [hml]; rfl) (argsL := [(.int u49)]) (rest := []) (lenOf own_pd1 rfl) rfl (by show 2 * 0 + _ ≤ _; exact Nat.le_of_eq rfl) (hb hby at_19) (fun _ _ => ⟨rfl, e0, (by decide : 0 + 1 ≤ _), (by decide : 0 + 1 ≤ _)⟩)
  dsimp only [Pt.U, Pt.locs, Pt.cells, Pt.slots] at X52 l52 y52 z52 st52 hQ52
  subst l52 y52 z52
  obtain ⟨r52, rfl, Nq52, Zq52, Er52, Fr52, Sa52, Sb52, i052, i152⟩ := hQ52
  have Nf53 := Fr.app N0 Nq52
  have A54 : ∀ t, Steps p.tables e below (T52.setTop (mkF m 30 #[.val (.int xx), .val (.int xy), .val (.int u49), .val (.ref r52), .unset, .unset] [(.ref r52)])) t → Steps p.tables e below (s₁.setTop (entryFrame m #[(.int xx), (.int xy)] maxLocals)) t := by
    intro t k
    refine A51 _ ?_
    refine st52 _ ?_
    show Steps p.tables e below (T52.setTop (mkF m 22 #[.val (.int xx), .val (.int xy), .val (.int u49), .unset, .unset, .unset] [(.ref r52)])) _
    refine XS.astoreN X52.here hx rfl (hb hby at_22) rfl rfl (l' := #[.val (.int xx), .val (.int xy), .val (.int u49), .val (.ref r52), .unset, .unset]) rfl ?_
    show Steps p.tables e below (T52.setTop (mkF m 23 #[.val (.int xx), .val (.int xy), .val (.int u49), .val (.ref r52), .unset, .unset] [])) _
    refine XS.aloadN X52.here hx rfl (hb hby at_23) rfl rfl ?_
    show Steps p.tables e below (T52.setTop (mkF m 24 #[.val (.int xx), .val (.int xy), .val (.int u49), .val (.ref r52), .unset, .unset] [(.ref r52)])) _
    refine XS.ifnonnullYes X52.here hx rfl (pc0 := 24) (pc' := 29) rfl (hb hby at_24) rfl (by decide) (by decide) ?_
    show Steps p.tables e below (T52.setTop (mkF m 29 #[.val (.int xx), .val (.int xy), .val (.int u49), .val (.ref r52), .unset, .unset] [])) _
    refine XS.aloadN X52.here hx rfl (hb hby at_29) rfl rfl ?_
    show Steps p.tables e below (T52.setTop (mkF m 30 #[.val (.int xx), .val (.int xy), .val (.int u49), .val (.ref r52), .unset, .unset] [(.ref r52)])) _
    exact k
  obtain ⟨cq55, kq55, q55a, q55b, q55c⟩ := isOf hZ rfl Er52
  obtain ⟨_, _, ⟨T55, L55, k55, n55⟩, -, X55, ⟨Lc55, hQ55, l55, y55, z55⟩, st55⟩ := X52.virtualBack hx (y := (⟨"com/example/ferrule/ferrule/com/HResult", "code", "()I"⟩ : MethodName)) (z := (⟨"com/example/ferrule/ferrule/com/HResult", "code", "()I"⟩ : MethodName)) hown (mvT hZ (hw _ (List.mem_of_getElem? (i := 8) rfl))) (mvT hZ (hw _ (List.mem_of_getElem? (i := 9) rfl))) (notFace_of_selects (args := #[]) (mvT hZ (hw _ (List.mem_of_getElem? (i := 11) rfl)))) (mvT hZ (hw _ (List.mem_of_getElem? (i := 11) rfl))) (mvT hZ (hw _ (List.mem_of_getElem? (i := 10) rfl))) (by decide) (backOf (W := 0) (own_code l Z a0 hw [] r52 u49 T52.heap n0 Zq52 Fr52) hZ (hw _ (List.mem_of_getElem? (i := 12) rfl)) (hw _ (List.mem_of_getElem? (i := 2) rfl)) (by decide) (by decide)) q55a q55c (g := (mkF m 30 #[.val (.int xx), .val (.int xy), .val (.int u49), .val (.ref r52), .unset, .unset] [(.ref r52)])) rfl (by rw [hml]; rfl) (Steps.refl _) (argsL := []) (rest := []) (lenOf own_pd2 rfl) rfl (by show 2 * 0 + _ ≤ _; exact Nat.le_of_eq rfl) (hb hby at_30) (fun _ _ => ⟨rfl, rfl, (by decide : 1 + 0 ≤ _), (by decide : 1 + 0 ≤ _)⟩)
  dsimp only [Pt.U, Pt.locs, Pt.cells, Pt.slots] at X55 l55 y55 z55 st55 hQ55
  subst l55 y55 z55
  obtain ⟨rfl, Nq55, eh55⟩ := hQ55
  have Nf56 := Fr.app Nf53 Nq55
  have A57 : ∀ t, Steps p.tables e below (T55.setTop (mkF m 40 #[.val (.int xx), .val (.int xy), .val (.int u49), .val (.ref r52), .unset, .unset] [(.ref r52)])) t → Steps p.tables e below (s₁.setTop (entryFrame m #[(.int xx), (.int xy)] maxLocals)) t := by
    intro t k
    refine A54 _ ?_
    refine st55.trans ?_
    show Steps p.tables e below (T55.setTop (mkF m 33 #[.val (.int xx), .val (.int xy), .val (.int u49), .val (.ref r52), .unset, .unset] [(.int u49)])) _
    refine XS.iloadN X55.here hx rfl (hb hby at_33) rfl ?_
    show Steps p.tables e below (T55.setTop (mkF m 34 #[.val (.int xx), .val (.int xy), .val (.int u49), .val (.ref r52), .unset, .unset] [(.int u49), (.int u49)])) _
    refine XS.icmpYes X55.here hx rfl (pc0 := 34) (pc' := 39) rfl (hb hby at_34) rfl (teq (rfl : u49 = u49)).1 (by decide) (by decide) ?_
    show Steps p.tables e below (T55.setTop (mkF m 39 #[.val (.int xx), .val (.int xy), .val (.int u49), .val (.ref r52), .unset, .unset] [])) _
    refine XS.aloadN X55.here hx rfl (hb hby at_39) rfl rfl ?_
    show Steps p.tables e below (T55.setTop (mkF m 40 #[.val (.int xx), .val (.int xy), .val (.int u49), .val (.ref r52), .unset, .unset] [(.ref r52)])) _
    exact k
  obtain ⟨T58, X58, e58, st58⟩ := getS2 X55 hx hZ hown (host := "") (Or.inl (hw _ (List.mem_of_getElem? (i := 13) rfl))) Via.refl eh55 Sa52 (g := (mkF m 40 #[.val (.int xx), .val (.int xy), .val (.int u49), .val (.ref r52), .unset, .unset] [(.ref r52)])) rfl (hb hby at_40)
  have A59 : ∀ t, Steps p.tables e below (T58.setTop (mkF m 43 #[.val (.int xx), .val (.int xy), .val (.int u49), .val (.ref r52), .unset, .unset] [(.ref v0), (.ref r52)])) t → Steps p.tables e below (s₁.setTop (entryFrame m #[(.int xx), (.int xy)] maxLocals)) t := by
    intro t k
    refine A57 _ ?_
    refine st58 _ ?_
    show Steps p.tables e below (T58.setTop (mkF m 43 #[.val (.int xx), .val (.int xy), .val (.int u49), .val (.ref r52), .unset, .unset] [(.ref v0), (.ref r52)])) _
    exact k
  obtain ⟨u61, hu61⟩ : ∃ u : Int32, u = (if r52 = v0 then (1 : Int32) else (0 : Int32)) := ⟨_, rfl⟩
  have A62 : ∀ t, Steps p.tables e below (T58.setTop (mkF m 51 #[.val (.int xx), .val (.int xy), .val (.int u49), .val (.ref r52), .unset, .unset] [(.int u61)])) t → Steps p.tables e below (s₁.setTop (entryFrame m #[(.int xx), (.int xy)] maxLocals)) t := by
    intro t k
    refine A59 _ ?_
    by_cases hj60 : r52 = v0
    · refine Jvm.RoadKit.acmp (g := (mkF m 43 #[.val (.int xx), .val (.int xy), .val (.int u49), .val (.ref r52), .unset, .unset] [(.ref v0), (.ref r52)])) X58 hx rfl rfl rfl (pc0 := 43) (pc' := 46) (same := true) rfl (hb hby at_43) rfl (decide_eq_true (congrArg Value.ref hj60)) (by decide) (by decide) ?_
      show Steps p.tables e below (T58.setTop (mkF m 46 #[.val (.int xx), .val (.int xy), .val (.int u49), .val (.ref r52), .unset, .unset] [])) _
      refine XS.iconst X58.here hx rfl (hb hby at_46) ?_
      show Steps p.tables e below (T58.setTop (mkF m 47 #[.val (.int xx), .val (.int xy), .val (.int u49), .val (.ref r52), .unset, .unset] [(.int (1 : Int32))])) _
      refine XS.goto X58.here hx rfl (pc0 := 47) (pc' := 51) rfl (hb hby at_47) (by decide) (by decide) ?_
      show Steps p.tables e below (T58.setTop (mkF m 51 #[.val (.int xx), .val (.int xy), .val (.int u49), .val (.ref r52), .unset, .unset] [(.int (1 : Int32))])) _
      have qu61 : u61 = (1 : Int32) := by rw [hu61]; simp [hj60]
      rw [qu61] at k
      exact k
    · refine Jvm.RoadKit.acmp (g := (mkF m 43 #[.val (.int xx), .val (.int xy), .val (.int u49), .val (.ref r52), .unset, .unset] [(.ref v0), (.ref r52)])) X58 hx rfl rfl rfl (pc0 := 43) (pc' := 50) (same := false) rfl (hb hby at_43) rfl (decide_eq_false fun q => hj60 (Value.ref.inj q)) (by decide) (by decide) ?_
      show Steps p.tables e below (T58.setTop (mkF m 50 #[.val (.int xx), .val (.int xy), .val (.int u49), .val (.ref r52), .unset, .unset] [])) _
      refine XS.iconst X58.here hx rfl (hb hby at_50) ?_
      show Steps p.tables e below (T58.setTop (mkF m 51 #[.val (.int xx), .val (.int xy), .val (.int u49), .val (.ref r52), .unset, .unset] [(.int (0 : Int32))])) _
      have qu61 : u61 = (0 : Int32) := by rw [hu61]; simp [hj60]
      rw [qu61] at k
      exact k
  have A63 : ∀ t, Steps p.tables e below (T58.setTop (mkF m 54 #[.val (.int xx), .val (.int xy), .val (.int u49), .val (.ref r52), .val (.int u61), .unset] [(.ref r52)])) t → Steps p.tables e below (s₁.setTop (entryFrame m #[(.int xx), (.int xy)] maxLocals)) t := by
    intro t k
    refine A62 _ ?_
    refine XS.istore X58.here hx rfl (hb hby at_51) rfl (l' := #[.val (.int xx), .val (.int xy), .val (.int u49), .val (.ref r52), .val (.int u61), .unset]) rfl ?_
    show Steps p.tables e below (T58.setTop (mkF m 53 #[.val (.int xx), .val (.int xy), .val (.int u49), .val (.ref r52), .val (.int u61), .unset] [])) _
    refine XS.aloadN X58.here hx rfl (hb hby at_53) rfl rfl ?_
    show Steps p.tables e below (T58.setTop (mkF m 54 #[.val (.int xx), .val (.int xy), .val (.int u49), .val (.ref r52), .val (.int u61), .unset] [(.ref r52)])) _
    exact k
  obtain ⟨T64, X64, e64, st64⟩ := getS2 X58 hx hZ hown (host := "") (Or.inl (hw _ (List.mem_of_getElem? (i := 14) rfl))) Via.refl e58 Sb52 (g := (mkF m 54 #[.val (.int xx), .val (.int xy), .val (.int u49), .val (.ref r52), .val (.int u61), .unset] [(.ref r52)])) rfl (hb hby at_54)
  have A65 : ∀ t, Steps p.tables e below (T64.setTop (mkF m 57 #[.val (.int xx), .val (.int xy), .val (.int u49), .val (.ref r52), .val (.int u61), .unset] [(.ref v1), (.ref r52)])) t → Steps p.tables e below (s₁.setTop (entryFrame m #[(.int xx), (.int xy)] maxLocals)) t := by
    intro t k
    refine A63 _ ?_
    refine st64 _ ?_
    show Steps p.tables e below (T64.setTop (mkF m 57 #[.val (.int xx), .val (.int xy), .val (.int u49), .val (.ref r52), .val (.int u61), .unset] [(.ref v1), (.ref r52)])) _
    exact k
  obtain ⟨u67, hu67⟩ : ∃ u : Int32, u = (if r52 = v1 then (1 : Int32) else (0 : Int32)) := ⟨_, rfl⟩
  have A68 : ∀ t, Steps p.tables e below (T64.setTop (mkF m 65 #[.val (.int xx), .val (.int xy), .val (.int u49), .val (.ref r52), .val (.int u61), .unset] [(.int u67)])) t → Steps p.tables e below (s₁.setTop (entryFrame m #[(.int xx), (.int xy)] maxLocals)) t := by
    intro t k
    refine A65 _ ?_
    by_cases hj66 : r52 = v1
    · refine Jvm.RoadKit.acmp (g := (mkF m 57 #[.val (.int xx), .val (.int xy), .val (.int u49), .val (.ref r52), .val (.int u61), .unset] [(.ref v1), (.ref r52)])) X64 hx rfl rfl rfl (pc0 := 57) (pc' := 60) (same := true) rfl (hb hby at_57) rfl (decide_eq_true (congrArg Value.ref hj66)) (by decide) (by decide) ?_
      show Steps p.tables e below (T64.setTop (mkF m 60 #[.val (.int xx), .val (.int xy), .val (.int u49), .val (.ref r52), .val (.int u61), .unset] [])) _
      refine XS.iconst X64.here hx rfl (hb hby at_60) ?_
      show Steps p.tables e below (T64.setTop (mkF m 61 #[.val (.int xx), .val (.int xy), .val (.int u49), .val (.ref r52), .val (.int u61), .unset] [(.int (1 : Int32))])) _
      refine XS.goto X64.here hx rfl (pc0 := 61) (pc' := 65) rfl (hb hby at_61) (by decide) (by decide) ?_
      show Steps p.tables e below (T64.setTop (mkF m 65 #[.val (.int xx), .val (.int xy), .val (.int u49), .val (.ref r52), .val (.int u61), .unset] [(.int (1 : Int32))])) _
      have qu67 : u67 = (1 : Int32) := by rw [hu67]; simp [hj66]
      rw [qu67] at k
      exact k
    · refine Jvm.RoadKit.acmp (g := (mkF m 57 #[.val (.int xx), .val (.int xy), .val (.int u49), .val (.ref r52), .val (.int u61), .unset] [(.ref v1), (.ref r52)])) X64 hx rfl rfl rfl (pc0 := 57) (pc' := 64) (same := false) rfl (hb hby at_57) rfl (decide_eq_false fun q => hj66 (Value.ref.inj q)) (by decide) (by decide) ?_
      show Steps p.tables e below (T64.setTop (mkF m 64 #[.val (.int xx), .val (.int xy), .val (.int u49), .val (.ref r52), .val (.int u61), .unset] [])) _
      refine XS.iconst X64.here hx rfl (hb hby at_64) ?_
      show Steps p.tables e below (T64.setTop (mkF m 65 #[.val (.int xx), .val (.int xy), .val (.int u49), .val (.ref r52), .val (.int u61), .unset] [(.int (0 : Int32))])) _
      have qu67 : u67 = (0 : Int32) := by rw [hu67]; simp [hj66]
      rw [qu67] at k
      exact k
  have A69 : ∀ t, Steps p.tables e below (T64.setTop (mkF m 70 #[.val (.int xx), .val (.int xy), .val (.int u49), .val (.ref r52), .val (.int u61), .val (.int u67)] [(.int u49), (.int u61)])) t → Steps p.tables e below (s₁.setTop (entryFrame m #[(.int xx), (.int xy)] maxLocals)) t := by
    intro t k
    refine A68 _ ?_
    refine XS.istore X64.here hx rfl (hb hby at_65) rfl (l' := #[.val (.int xx), .val (.int xy), .val (.int u49), .val (.ref r52), .val (.int u61), .val (.int u67)]) rfl ?_
    show Steps p.tables e below (T64.setTop (mkF m 67 #[.val (.int xx), .val (.int xy), .val (.int u49), .val (.ref r52), .val (.int u61), .val (.int u67)] [])) _
    refine XS.iload X64.here hx rfl (hb hby at_67) rfl ?_
    show Steps p.tables e below (T64.setTop (mkF m 69 #[.val (.int xx), .val (.int xy), .val (.int u49), .val (.ref r52), .val (.int u61), .val (.int u67)] [(.int u61)])) _
    refine XS.iloadN X64.here hx rfl (hb hby at_69) rfl ?_
    show Steps p.tables e below (T64.setTop (mkF m 70 #[.val (.int xx), .val (.int xy), .val (.int u49), .val (.ref r52), .val (.int u61), .val (.int u67)] [(.int u49), (.int u61)])) _
    exact k
  obtain ⟨u71, hu71⟩ : ∃ u : Int32, u = (if u49 = (0 : Int32) then (1 : Int32) else (0 : Int32)) := ⟨_, rfl⟩
  have A72 : ∀ t, Steps p.tables e below (T64.setTop (mkF m 78 #[.val (.int xx), .val (.int xy), .val (.int u49), .val (.ref r52), .val (.int u61), .val (.int u67)] [(.int u71), (.int u61)])) t → Steps p.tables e below (s₁.setTop (entryFrame m #[(.int xx), (.int xy)] maxLocals)) t := by
    intro t k
    refine A69 _ ?_
    by_cases hj70 : u49 = (0 : Int32)
    · refine XS.ifNo X64.here hx rfl (hb hby at_70) rfl ((if0 _ _).trans (teq hj70).2) ?_
      show Steps p.tables e below (T64.setTop (mkF m 73 #[.val (.int xx), .val (.int xy), .val (.int u49), .val (.ref r52), .val (.int u61), .val (.int u67)] [(.int u61)])) _
      refine XS.iconst X64.here hx rfl (hb hby at_73) ?_
      show Steps p.tables e below (T64.setTop (mkF m 74 #[.val (.int xx), .val (.int xy), .val (.int u49), .val (.ref r52), .val (.int u61), .val (.int u67)] [(.int (1 : Int32)), (.int u61)])) _
      refine XS.goto X64.here hx rfl (pc0 := 74) (pc' := 78) rfl (hb hby at_74) (by decide) (by decide) ?_
      show Steps p.tables e below (T64.setTop (mkF m 78 #[.val (.int xx), .val (.int xy), .val (.int u49), .val (.ref r52), .val (.int u61), .val (.int u67)] [(.int (1 : Int32)), (.int u61)])) _
      have qu71 : u71 = (1 : Int32) := by rw [hu71]; simp [hj70]
      rw [qu71] at k
      exact k
    · refine XS.ifYes X64.here hx rfl (pc0 := 70) (pc' := 77) rfl (hb hby at_70) rfl ((if0 _ _).trans (feq hj70).2) (by decide) (by decide) ?_
      show Steps p.tables e below (T64.setTop (mkF m 77 #[.val (.int xx), .val (.int xy), .val (.int u49), .val (.ref r52), .val (.int u61), .val (.int u67)] [(.int u61)])) _
      refine XS.iconst X64.here hx rfl (hb hby at_77) ?_
      show Steps p.tables e below (T64.setTop (mkF m 78 #[.val (.int xx), .val (.int xy), .val (.int u49), .val (.ref r52), .val (.int u61), .val (.int u67)] [(.int (0 : Int32)), (.int u61)])) _
      have qu71 : u71 = (0 : Int32) := by rw [hu71]; simp [hj70]
      rw [qu71] at k
      exact k
  have hq1 : u61 = u71 := by rw [hu61, hu71]; simp only [i052]
  have A73 : ∀ t, Steps p.tables e below (T64.setTop (mkF m 87 #[.val (.int xx), .val (.int xy), .val (.int u49), .val (.ref r52), .val (.int u61), .val (.int u67)] [(.int (1 : Int32)), (.int u49), (.int u67)])) t → Steps p.tables e below (s₁.setTop (entryFrame m #[(.int xx), (.int xy)] maxLocals)) t := by
    intro t k
    refine A72 _ ?_
    refine XS.icmpYes X64.here hx rfl (pc0 := 78) (pc' := 83) rfl (hb hby at_78) rfl (teq hq1).1 (by decide) (by decide) ?_
    show Steps p.tables e below (T64.setTop (mkF m 83 #[.val (.int xx), .val (.int xy), .val (.int u49), .val (.ref r52), .val (.int u61), .val (.int u67)] [])) _
    refine XS.iload X64.here hx rfl (hb hby at_83) rfl ?_
    show Steps p.tables e below (T64.setTop (mkF m 85 #[.val (.int xx), .val (.int xy), .val (.int u49), .val (.ref r52), .val (.int u61), .val (.int u67)] [(.int u67)])) _
    refine XS.iloadN X64.here hx rfl (hb hby at_85) rfl ?_
    show Steps p.tables e below (T64.setTop (mkF m 86 #[.val (.int xx), .val (.int xy), .val (.int u49), .val (.ref r52), .val (.int u61), .val (.int u67)] [(.int u49), (.int u67)])) _
    refine XS.iconst X64.here hx rfl (hb hby at_86) ?_
    show Steps p.tables e below (T64.setTop (mkF m 87 #[.val (.int xx), .val (.int xy), .val (.int u49), .val (.ref r52), .val (.int u61), .val (.int u67)] [(.int (1 : Int32)), (.int u49), (.int u67)])) _
    exact k
  obtain ⟨u75, hu75⟩ : ∃ u : Int32, u = (if u49 = (1 : Int32) then (1 : Int32) else (0 : Int32)) := ⟨_, rfl⟩
  have A76 : ∀ t, Steps p.tables e below (T64.setTop (mkF m 95 #[.val (.int xx), .val (.int xy), .val (.int u49), .val (.ref r52), .val (.int u61), .val (.int u67)] [(.int u75), (.int u67)])) t → Steps p.tables e below (s₁.setTop (entryFrame m #[(.int xx), (.int xy)] maxLocals)) t := by
    intro t k
    refine A73 _ ?_
    by_cases hj74 : u49 = (1 : Int32)
    · refine XS.icmpNo X64.here hx rfl (hb hby at_87) rfl (teq hj74).2 ?_
      show Steps p.tables e below (T64.setTop (mkF m 90 #[.val (.int xx), .val (.int xy), .val (.int u49), .val (.ref r52), .val (.int u61), .val (.int u67)] [(.int u67)])) _
      refine XS.iconst X64.here hx rfl (hb hby at_90) ?_
      show Steps p.tables e below (T64.setTop (mkF m 91 #[.val (.int xx), .val (.int xy), .val (.int u49), .val (.ref r52), .val (.int u61), .val (.int u67)] [(.int (1 : Int32)), (.int u67)])) _
      refine XS.goto X64.here hx rfl (pc0 := 91) (pc' := 95) rfl (hb hby at_91) (by decide) (by decide) ?_
      show Steps p.tables e below (T64.setTop (mkF m 95 #[.val (.int xx), .val (.int xy), .val (.int u49), .val (.ref r52), .val (.int u61), .val (.int u67)] [(.int (1 : Int32)), (.int u67)])) _
      have qu75 : u75 = (1 : Int32) := by rw [hu75]; simp [hj74]
      rw [qu75] at k
      exact k
    · refine XS.icmpYes X64.here hx rfl (pc0 := 87) (pc' := 94) rfl (hb hby at_87) rfl (feq hj74).2 (by decide) (by decide) ?_
      show Steps p.tables e below (T64.setTop (mkF m 94 #[.val (.int xx), .val (.int xy), .val (.int u49), .val (.ref r52), .val (.int u61), .val (.int u67)] [(.int u67)])) _
      refine XS.iconst X64.here hx rfl (hb hby at_94) ?_
      show Steps p.tables e below (T64.setTop (mkF m 95 #[.val (.int xx), .val (.int xy), .val (.int u49), .val (.ref r52), .val (.int u61), .val (.int u67)] [(.int (0 : Int32)), (.int u67)])) _
      have qu75 : u75 = (0 : Int32) := by rw [hu75]; simp [hj74]
      rw [qu75] at k
      exact k
  have hq2 : u67 = u75 := by rw [hu67, hu75]; simp only [i152]
  have A77 : ∀ t, Steps p.tables e below (T64.setTop (mkF m 101 #[.val (.int xx), .val (.int xy), .val (.int u49), .val (.ref r52), .val (.int u61), .val (.int u67)] [(.int (1 : Int32))])) t → Steps p.tables e below (s₁.setTop (entryFrame m #[(.int xx), (.int xy)] maxLocals)) t := by
    intro t k
    refine A76 _ ?_
    refine XS.icmpYes X64.here hx rfl (pc0 := 95) (pc' := 100) rfl (hb hby at_95) rfl (teq hq2).1 (by decide) (by decide) ?_
    show Steps p.tables e below (T64.setTop (mkF m 100 #[.val (.int xx), .val (.int xy), .val (.int u49), .val (.ref r52), .val (.int u61), .val (.int u67)] [])) _
    refine XS.iconst X64.here hx rfl (hb hby at_100) ?_
    show Steps p.tables e below (T64.setTop (mkF m 101 #[.val (.int xx), .val (.int xy), .val (.int u49), .val (.ref r52), .val (.int u61), .val (.int u67)] [(.int (1 : Int32))])) _
    exact k
  obtain ⟨fs, hr, hrun, hended, hW, hsame⟩ := X64.leave (v := some (.int (1 : Int32))) (fun h => by rw [Bd.returns] at h; cases h)
  refine ⟨_, _, A77 _ ?_, hrun, hended, _, _, rfl, ?_, ⟨_, rfl⟩, hW, hsame.mono (by decide) (by decide)⟩
  · exact retN X64 hx (t := .boolean) Bd.returns (by simp) (hb hby at_101) hr
  · show own_Q0 Z xx xy h0 n0 _ T64.heap _
    rw [e64]
    exact ⟨rfl, Nf56⟩
set_option maxRecDepth 65536 in
set_option maxHeartbeats 40000000 in
theorem comes_1 {Post : Tables → Env → Array Value → State → Outcome → State → Prop} (hpost : ∀ tb e args s v u, (limb_1_1.after args s (.returned v) u = true ∧ limb_1_2.after args s (.returned v) u = true ∧ True) → FrameEnd s (.returned v) u (Jvm.fieldLocs frame_1_writes args s ++ Jvm.arrayLocs frame_1_arrays args s ++ Jvm.staticLocs frame_1_statics s) 16 128 → Post tb e args s (.returned v) u) :
    ArmFor flags0 classFile x code maxLocals ret World_1 tables_1 room_1 Calls_1 rest_1 Pre_1 Post := by
  intro l hfl _ _ p e ha hc hk s m args below hf hA hF happ hP
  obtain ⟨hcalls, hrest, hpre⟩ := hP
  obtain ⟨-, -, -, hnamed, -, -, -, hat⟩ := (Spec.applies_iff hf).mp happ
  obtain ⟨hg, hn⟩ := and_e (Cond.before_iff.mp (show (Jvm.Cond.and given_1 narrow_1).before args s = true from hpre))
  obtain ⟨hcount, hg⟩ := and_e hg
  obtain ⟨ga0, hg⟩ := and_e hg
  have ga1 := hg
  obtain ⟨w0, w1, rfl⟩ : ∃ w0 w1 : Value, args = #[w0, w1] := by
    have hs : args.size = 2 := by simpa [Cond.value, given_1] using hcount
    obtain ⟨L⟩ := args
    match L, hs with
    | [w0, w1], _ => exact ⟨w0, w1, rfl⟩
  have hw := fun d (hd : d ∈ tables_1) => atoms_spec (ws := Jvm.Cond.code x code maxLocals ret :: tables_1) hat d (List.mem_cons_of_mem _ hd)
  have hfit : Fit s := fun {y c} hc i hi => by
    obtain ⟨ha, rfl⟩ := Array.getElem?_eq_some_iff.mp hc
    have q := List.all_eq_true.mp ((Array.all_eq_true_iff_forall_mem.mp hF) _ (Array.getElem_mem ha)) i (List.mem_range.mpr hi)
    simpa [Array.getElem?_eq_getElem hi] using q
  obtain ⟨i0, ei0⟩ := is_v ga0
  obtain rfl : w0 = (.int i0) := Option.some.inj ei0
  obtain ⟨i1, ei1⟩ := is_v ga1
  obtain rfl : w1 = (.int i1) := Option.some.inj ei1
  obtain ⟨c0, hn⟩ := and_e hn
  obtain ⟨c1, hn⟩ := and_e hn
  obtain ⟨c2, hn⟩ := and_e hn
  obtain ⟨c3, hn⟩ := and_e hn
  have c4 := hn
  obtain ⟨v0, ev0⟩ := exa_v c0
  have E0 := Exa.start ev0 c0
  have S0 := Sta.start ev0 (Or.inr ⟨(hw _ (List.mem_of_getElem? (i := 2) rfl)), (hw _ (List.mem_of_getElem? (i := 5) rfl))⟩)
  obtain ⟨v1, ev1⟩ := exa_v c2
  have E1 := Exa.start ev1 c2
  have S1 := Sta.start ev1 (Or.inr ⟨(hw _ (List.mem_of_getElem? (i := 2) rfl)), (hw _ (List.mem_of_getElem? (i := 15) rfl))⟩)
  have F0 := Fld.start ((fld_at ev0).symm.trans (Cond.eq_int (Cond.before_iff.mpr c1) rfl))
  have F1 := Fld.start ((fld_at ev1).symm.trans (Cond.eq_int (Cond.before_iff.mpr c4) rfl))
  have ne01 : v0 ≠ v1 := Fld.ne F0 F1 (fun q => absurd (Value.int.inj q) (by decide))
  obtain ⟨n, o, h1, h2, h3, _, L, rfl, ⟨rfl, N⟩, hq⟩ := own_law l s _ hw tables_1 i0 i1 v0 v1 s.heap s.heap.size (Nat.le_refl _) S0 S1 E0 E1 F0 F1 ne01 p e ha hc hk s m _ below hf ((Spec.applies_iff_loose hf).mp happ).1 ⟨rfl, State.Warmed39.refl s, rfl⟩ trivial
  refine ⟨n, _, h1, h2, h3, hpost _ _ _ _ _ _ ⟨Cond.after_iff.mpr rfl, Cond.after_iff.mpr (eq_i res_at (Term.int_eval (1)) rfl), trivial⟩ ⟨hq.1, hq.2.1, (hq.2.2.sift fun y hy => Or.inr (N y hy)).mono (by decide) (by decide)⟩⟩
theorem main_1_1 : Claimed_1_1 := comes_1 fun _ _ _ _ _ _ h hF => ⟨h.1, hF⟩
theorem main_1_2 : Claimed_1_2 := comes_1 fun _ _ _ _ _ _ h hF => ⟨h.2.1, hF⟩
end Jvm.Pilot.@@N@@
namespace Jvm.Pilot.@@N@@
open Jvm Jvm.ClassFile Sem Op Lib Jvm.Free Jvm.Stand Jvm.Pilot.@@N@@.Jvm.D
/-! MADE BY PROGRAM (witnessworld.py) out of the Statement's table words and the real class files: 9 classes; the members and pool entries that the words name. The judged class is class 1, her method 1. -/
namespace start1
open Jvm.ClassFile
def u (s : String) : CpInfo := .utf8 (stringToUtf16 s)
/-- a pool by its gaps: so many unusable entries, then the entry; so many at the end -/
def gap : Nat → List CpInfo → List CpInfo
  | 0, r => r
  | n + 1, r => .unusable :: gap n r
def poolList (es : List (Nat × CpInfo)) (last : Nat) : List CpInfo := es.foldr (fun e r => gap e.1 (e.2 :: r)) (gap last [])
def pool (es : List (Nat × CpInfo)) (last : Nat) : Array CpInfo := ⟨poolList es last⟩
def fileOf (pool : Array CpInfo) (this : Nat) (attrs : Array Attribute := #[]) (ms : Array MethodInfo := #[]) (fl : Nat := 33) (sup : Nat := 0) (ifs : Array Nat := #[]) (fds : Array FieldInfo := #[]) : ClassFile where
  minorVersion := 0
  majorVersion := 65
  constantPool := pool
  accessFlags := fl
  thisClass := this
  superClass := sup
  interfaces := ifs
  fields := fds
  methods := ms
  attributes := attrs
def plain (name : String) (sup : Option ClassId) : Class where
  name := name
  kind := .ordinary
  loader := none
  accessFlags := 33
  super := sup
  interfaces := #[]
  cf := none
  fields := #[]
  methods := #[]
  instanceTypes := #[]
  staticTypes := #[]
  resolved := #[]
  callSites := []
  init := .initialized
  statics := none
  mirror := none

def pool0 : Array CpInfo := pool [(5, u "<init>"), (0, u "()V"), (1, .class_ 10), (1, u "java/lang/Object")] 113

def k0c0 : Code := { maxStack := 0, maxLocals := 1, code := object_method_1_code, exceptionTable := #[], attributes := #[] }
def k0m0 : Method := { name := "<init>", desc := "()V", sig := { parameters := [], returnType := none }, accessFlags := 1, code := some k0c0 }
/-- java/lang/Object -/
def k0 : Class := { plain "java/lang/Object" none with
  accessFlags := 33
  interfaces := #[]
  cf := some (fileOf pool0 8 #[] #[{ accessFlags := 1, nameIndex := 5, descriptorIndex := 6, attributes := #[] }] 33 0 #[] #[])
  fields := #[]
  methods := #[k0m0]
  instanceTypes := #[]
  staticTypes := #[]
  resolved := Array.replicate 124 none
  statics := none }

def pool1 : Array CpInfo := pool [(2, .class_ 4), (1, u "java/lang/Object"), (0, u "<init>"), (0, u "()V"), (0, .integer 2147483647), (0, .methodref 9 10), (0, .class_ 11), (0, .nameAndType 12 13), (0, u "com/example/ferrule/ferrule/com/HResult"), (0, u "check"), (0, u "(I)Lcom/example/ferrule/ferrule/com/HResult;"), (0, .methodref 9 15), (0, .nameAndType 16 17), (0, u "code"), (0, u "()I"), (0, .fieldref 9 19), (0, .nameAndType 20 21), (0, u "S_OK"), (0, u "Lcom/example/ferrule/ferrule/com/HResult;"), (0, .fieldref 9 23), (0, .nameAndType 24 21), (0, u "S_FALSE"), (0, .class_ 26), (0, u "com/example/ferrule/ferrule/com/HResultCheckPinLaw"), (2, u "law"), (0, u "(II)Z")] 3

def k1m0 : Method := { name := "<init>", desc := "()V", sig := { parameters := [], returnType := none }, accessFlags := 2, code := none }
def k1c1 : Code := { maxStack := 3, maxLocals := 6, code := code, exceptionTable := #[], attributes := #[] }
def k1m1 : Method := { name := "law", desc := "(II)Z", sig := { parameters := [.int, .int], returnType := some .boolean }, accessFlags := 9, code := some k1c1 }
/-- com/example/ferrule/ferrule/com/HResultCheckPinLaw -/
def k1 : Class := { plain "com/example/ferrule/ferrule/com/HResultCheckPinLaw" (some 0) with
  accessFlags := 49
  interfaces := #[]
  cf := some (fileOf pool1 25 #[] #[{ accessFlags := 2, nameIndex := 5, descriptorIndex := 6, attributes := #[] }, { accessFlags := 9, nameIndex := 29, descriptorIndex := 30, attributes := #[] }] 49 2 #[] #[])
  fields := #[]
  methods := #[k1m0, k1m1]
  instanceTypes := #[]
  staticTypes := #[]
  resolved := Array.replicate 34 none
  statics := none }

def pool2 : Array CpInfo := pool [(1, .methodref 2 3), (0, .class_ 4), (0, .nameAndType 5 6), (0, u "java/lang/Object"), (0, u "<init>"), (0, u "()V"), (0, .fieldref 8 9), (0, .class_ 10), (0, .nameAndType 11 12), (0, u "com/example/ferrule/ferrule/com/HResult"), (0, u "code"), (0, u "I"), (3, .nameAndType 5 17), (0, u "(I)V"), (0, .fieldref 8 19), (0, .nameAndType 20 21), (0, u "S_OK"), (0, u "Lcom/example/ferrule/ferrule/com/HResult;"), (0, .fieldref 8 23), (0, .nameAndType 24 21), (0, u "S_FALSE"), (0, .methodref 8 16), (36, u "check"), (0, u "(I)Lcom/example/ferrule/ferrule/com/HResult;"), (1, u "()I"), (12, .class_ 79), (0, u "com/example/ferrule/ferrule/com/HResult$CodeConverter")] 16

def k2c0 : Code := { maxStack := 2, maxLocals := 2, code := prog_10_method_1_code, exceptionTable := #[], attributes := #[] }
def k2m0 : Method := { name := "<init>", desc := "(I)V", sig := { parameters := [.int], returnType := none }, accessFlags := 2, code := some k2c0 }
def k2c1 : Code := { maxStack := 3, maxLocals := 1, code := prog_10_method_2_code, exceptionTable := #[], attributes := #[] }
def k2m1 : Method := { name := "check", desc := "(I)Lcom/example/ferrule/ferrule/com/HResult;", sig := { parameters := [.int], returnType := some (.object "com/example/ferrule/ferrule/com/HResult") }, accessFlags := 9, code := some k2c1 }
def k2c2 : Code := { maxStack := 1, maxLocals := 1, code := prog_10_method_3_code, exceptionTable := #[], attributes := #[] }
def k2m2 : Method := { name := "code", desc := "()I", sig := { parameters := [], returnType := some .int }, accessFlags := 1, code := some k2c2 }
/-- com/example/ferrule/ferrule/com/HResult -/
def k2 : Class := { plain "com/example/ferrule/ferrule/com/HResult" (some 0) with
  accessFlags := 49
  interfaces := #[]
  cf := some (fileOf pool2 8 #[.nestMembers #[78]] #[{ accessFlags := 2, nameIndex := 5, descriptorIndex := 17, attributes := #[] }, { accessFlags := 9, nameIndex := 62, descriptorIndex := 63, attributes := #[] }, { accessFlags := 1, nameIndex := 11, descriptorIndex := 65, attributes := #[] }] 49 2 #[] #[{ accessFlags := 25, nameIndex := 20, descriptorIndex := 21, attributes := #[] }, { accessFlags := 25, nameIndex := 24, descriptorIndex := 21, attributes := #[] }, { accessFlags := 18, nameIndex := 11, descriptorIndex := 12, attributes := #[] }])
  fields := #[{ name := "S_OK", type := (.object "com/example/ferrule/ferrule/com/HResult"), accessFlags := 25, slot := 0, constantValue := 0 }, { name := "S_FALSE", type := (.object "com/example/ferrule/ferrule/com/HResult"), accessFlags := 25, slot := 1, constantValue := 0 }, { name := "code", type := .int, accessFlags := 18, slot := 0, constantValue := 0 }]
  methods := #[k2m0, k2m1, k2m2]
  instanceTypes := #[.int]
  staticTypes := #[(.object "com/example/ferrule/ferrule/com/HResult"), (.object "com/example/ferrule/ferrule/com/HResult")]
  resolved := Array.replicate 96 none
  statics := some 0 }

def pool3 : Array CpInfo := pool [(1, u "java/lang/Cloneable"), (0, .class_ 1), (0, u "java/lang/Object"), (0, .class_ 3)] 3

/-- java/lang/Cloneable -/
def k3 : Class := { plain "java/lang/Cloneable" (some 0) with
  accessFlags := 1537
  interfaces := #[]
  cf := some (fileOf pool3 2 #[] #[] 1537 4 #[] #[])
  fields := #[]
  methods := #[]
  instanceTypes := #[]
  staticTypes := #[]
  resolved := Array.replicate 8 none
  statics := none }

def pool4 : Array CpInfo := pool [(1, u "java/io/Serializable"), (0, .class_ 1), (0, u "java/lang/Object"), (0, .class_ 3)] 3

/-- java/io/Serializable -/
def k4 : Class := { plain "java/io/Serializable" (some 0) with
  accessFlags := 1537
  interfaces := #[]
  cf := some (fileOf pool4 2 #[] #[] 1537 4 #[] #[])
  fields := #[]
  methods := #[]
  instanceTypes := #[]
  staticTypes := #[]
  resolved := Array.replicate 8 none
  statics := none }

/-- the primitive byte -/
def k5 : Class := { plain "byte" none with kind := .primitive 'B', accessFlags := 0x411 }
/-- [B -/
def k6 : Class := { plain "[B" (some 0) with kind := .array 5 .byte, interfaces := #[3, 4], accessFlags := 1041 }

/-- the primitive int -/
def k7 : Class := { plain "int" none with kind := .primitive 'I', accessFlags := 0x411 }
/-- [I -/
def k8 : Class := { plain "[I" (some 0) with kind := .array 7 .int, interfaces := #[3, 4], accessFlags := 1041 }

def heap : Heap := #[{ cls := 2, slots := #[.ref 1, .ref 2], vm := .statics 2 },
  { cls := 2, slots := #[.int 0], vm := .none },
  { cls := 2, slots := #[.int 1], vm := .none }]
def classes : Array Class := #[k0, k1, k2, k3, k4, k5, k6, k7, k8]
def interned : List (Array UInt16 × Addr) := []
def slotsUsed : Nat := 4
def theMethod : MethodId := ⟨1, 1⟩
def args0 : Array Value := #[.int 5, .int 7]
def aboutOver (below : List Frame) : State where
  vm := { classes := classes, interned := interned.toArray }
  heap := heap
  slotsUsed := slotsUsed
  threads := #[{ frames := .invoking theMethod args0 :: below }]
def below0 : List Frame := [.native { method := ⟨0, 0⟩, args := #[] }]
def about1 : State := aboutOver below0
def p0 : Program := .bare "" "" ""
def e0 : Env := launch0.env 0 0 0
theorem w_frames : about1.frames = Frame.invoking theMethod args0 :: below0 := rfl
set_option maxRecDepth 65536 in
theorem w_args : argsFit about1.vm theMethod args0 = true := by decide +kernel
set_option maxRecDepth 65536 in
theorem w_heap : heapFits about1 = true := by decide +kernel
set_option maxRecDepth 65536 in
theorem w_runnable : about1.curStatus? = some .runnable := by decide +kernel
set_option maxRecDepth 65536 in
theorem w_alone : about1.alone = true := by decide +kernel
set_option maxRecDepth 65536 in
theorem w_named : about1.methodNamed? x = some theMethod := by decide +kernel
set_option maxRecDepth 65536 in
theorem w_hears : about1.hears theMethod below0 = true := by decide +kernel
set_option maxRecDepth 65536 in
theorem w_ripe : about1.ripe theMethod args0 below0 = true := by decide +kernel
theorem w_running : about1.status = .running := rfl
set_option maxRecDepth 65536 in
theorem w_room : about1.hasRoom e0.platform room_1 = true :=
  launch0.hasRoom_least _ room_1 (by decide +kernel) (by decide +kernel) (by decide +kernel) (by decide +kernel) (by decide +kernel) (by decide +kernel)
theorem allAtoms_all (ts : List Jvm.Cond) (a : Array Jvm.Value) (st : Jvm.State) : (allAtoms ts).before a st = ts.all (fun c => c.before a st) := by
  induction ts with
  | nil => rfl
  | cons c t ih =>
    show (Jvm.Cond.and c (allAtoms t)).before a st = _
    rw [Jvm.Cond.before_and, ih, List.all_cons]
def words1 : List Jvm.Cond := Jvm.Cond.code x code maxLocals ret :: tables_1
/-- a 'code' word, met by the world's own term for the bytes: nothing is compared byte by byte -/
theorem code_word {y : MethodName} {bytes : ByteArray} {mx : Nat} {rt : Option FieldType} {a : Array Value} {s : State} {m : MethodId} {meth : Method} {c : Code} (h1 : s.methodNamed? y = some m) (h2 : s.vm.method? m = some meth) (h3 : meth.code = some c) (h4 : c.code = bytes)
    (h5 : (c.maxLocals == mx && c.exceptionTable.isEmpty && decide (c.maxStack ≤ mostOperands) && decide (meth.sig.returnType = rt) && !meth.locks && decide (parseMethodDescriptor y.desc = some meth.sig)) = true) : (Jvm.Cond.code y bytes mx rt).before a s = true := by
  simp only [Bool.and_eq_true, beq_iff_eq, Bool.not_eq_true', decide_eq_true_eq] at h5
  obtain ⟨⟨⟨⟨⟨g1, g2⟩, g3⟩, g4⟩, g5⟩, g6⟩ := h5
  simp [Cond.before, Cond.holds, Cond.value, h1, h2, h3, h4, g1, g2, g3, g4, g5, g6]
def isCode : Jvm.Cond → Bool
  | .code _ _ _ _ => true
  | _ => false
theorem all_split {L : List Jvm.Cond} {P : Jvm.Cond → Bool} (h1 : L.all (fun c => isCode c || P c) = true) (h2 : ∀ c ∈ L.filter isCode, P c = true) : L.all P = true := by
  refine List.all_eq_true.mpr fun c hc => ?_
  have h := List.all_eq_true.mp h1 c hc
  rcases Bool.eq_false_or_eq_true (isCode c) with hi | hi
  · exact h2 c (List.mem_filter.mpr ⟨hc, hi⟩)
  · simpa [hi] using h
set_option maxRecDepth 65536 in
theorem w_c0 : (Jvm.Cond.code x code maxLocals ret).before args0 about1 = true := code_word (m := ⟨1, 1⟩) (meth := k1m1) (c := k1c1) (by decide +kernel) rfl rfl rfl (by decide +kernel)
set_option maxRecDepth 65536 in
theorem w_c1 : (Jvm.Cond.code ({ cls := "com/example/ferrule/ferrule/com/HResult", name := "check", desc := "(I)Lcom/example/ferrule/ferrule/com/HResult;" } : Jvm.MethodName) prog_10_method_2_code (1 : Nat) (Option.some (Jvm.ClassFile.FieldType.object "com/example/ferrule/ferrule/com/HResult"))).before args0 about1 = true := code_word (m := ⟨2, 1⟩) (meth := k2m1) (c := k2c1) (by decide +kernel) rfl rfl rfl (by decide +kernel)
set_option maxRecDepth 65536 in
theorem w_c2 : (Jvm.Cond.code ({ cls := "com/example/ferrule/ferrule/com/HResult", name := "code", desc := "()I" } : Jvm.MethodName) prog_10_method_3_code (1 : Nat) (Option.some Jvm.ClassFile.FieldType.int)).before args0 about1 = true := code_word (m := ⟨2, 2⟩) (meth := k2m2) (c := k2c2) (by decide +kernel) rfl rfl rfl (by decide +kernel)
set_option maxRecDepth 65536 in
theorem w_c3 : (Jvm.Cond.code ({ cls := "com/example/ferrule/ferrule/com/HResult", name := "<init>", desc := "(I)V" } : Jvm.MethodName) prog_10_method_1_code (2 : Nat) (Option.none : Option Jvm.ClassFile.FieldType)).before args0 about1 = true := code_word (m := ⟨2, 0⟩) (meth := k2m0) (c := k2c0) (by decide +kernel) rfl rfl rfl (by decide +kernel)
set_option maxRecDepth 65536 in
theorem w_c4 : (Jvm.Cond.code ({ cls := "java/lang/Object", name := "<init>", desc := "()V" } : Jvm.MethodName) object_method_1_code (1 : Nat) (Option.none : Option Jvm.ClassFile.FieldType)).before args0 about1 = true := code_word (m := ⟨0, 0⟩) (meth := k0m0) (c := k0c0) (by decide +kernel) rfl rfl rfl (by decide +kernel)
def codes1 : List Jvm.Cond := [Jvm.Cond.code x code maxLocals ret, Jvm.Cond.code ({ cls := "com/example/ferrule/ferrule/com/HResult", name := "check", desc := "(I)Lcom/example/ferrule/ferrule/com/HResult;" } : Jvm.MethodName) prog_10_method_2_code (1 : Nat) (Option.some (Jvm.ClassFile.FieldType.object "com/example/ferrule/ferrule/com/HResult")), Jvm.Cond.code ({ cls := "com/example/ferrule/ferrule/com/HResult", name := "code", desc := "()I" } : Jvm.MethodName) prog_10_method_3_code (1 : Nat) (Option.some Jvm.ClassFile.FieldType.int), Jvm.Cond.code ({ cls := "com/example/ferrule/ferrule/com/HResult", name := "<init>", desc := "(I)V" } : Jvm.MethodName) prog_10_method_1_code (2 : Nat) (Option.none : Option Jvm.ClassFile.FieldType), Jvm.Cond.code ({ cls := "java/lang/Object", name := "<init>", desc := "()V" } : Jvm.MethodName) object_method_1_code (1 : Nat) (Option.none : Option Jvm.ClassFile.FieldType)]
set_option maxRecDepth 65536 in
theorem codes_eq : words1.filter isCode = codes1 := rfl
theorem w_codes : ∀ c ∈ words1.filter isCode, c.before args0 about1 = true := by
  rw [codes_eq]
  intro c hc
  simp only [codes1, List.mem_cons, List.not_mem_nil, or_false] at hc
  rcases hc with rfl | rfl | rfl | rfl | rfl
  · exact w_c0
  · exact w_c1
  · exact w_c2
  · exact w_c3
  · exact w_c4
set_option maxRecDepth 65536 in
theorem w_t1 : (words1.take 24).all (fun c => isCode c || c.before args0 about1) = true := by decide +kernel
set_option maxRecDepth 65536 in
theorem w_t2 : (words1.drop 24).all (fun c => isCode c || c.before args0 about1) = true := by decide +kernel
theorem w_tables : (allAtoms (Jvm.Cond.code x code maxLocals ret :: tables_1)).before args0 about1 = true := by
  rw [allAtoms_all]
  show words1.all (fun c => c.before args0 about1) = true
  refine all_split ?_ w_codes
  rw [← List.take_append_drop 24 words1, List.all_append, w_t1, w_t2]
  rfl
set_option maxRecDepth 65536 in
theorem w_case : (Jvm.Cond.and given_1 narrow_1).before args0 about1 = true := by decide +kernel
theorem w_applies : (headSpec (Jvm.Cond.code x code maxLocals ret :: tables_1) room_1).applies x e0.platform about1 = true :=
  (Spec.applies_iff w_frames).mpr ⟨w_running, w_runnable, w_alone, w_named, w_hears, w_ripe, w_room, w_tables⟩
theorem atStart : AtStart classFile x code maxLocals ret World_1 tables_1 room_1 Calls_1 rest_1 Pre_1 launch0 p0 e0 about1 theMethod args0 below0 :=
  ⟨lists_1, trivial, launch0.admits_env _ _ _, launch0.least_env, fairChoices_fair.cas, fairChoices_fair.clock, w_frames, w_args, w_heap, w_applies, trivial, trivial, w_case⟩
end start1
theorem witness_1 : WitnessClaimed_1 := ⟨start1.p0, start1.e0, start1.about1, start1.theMethod, start1.args0, start1.below0, start1.atStart⟩
end Jvm.Pilot.@@N@@
