import JvmDerived
import JvmDerived.Pilot.@@N@@Statement
import JvmDerived.Pilot.@@N@@Code
set_option linter.unusedVariables false
set_option linter.unusedSimpArgs false
namespace Jvm.Pilot.@@N@@
open Jvm Jvm.ClassFile Sem Op Lib Jvm.Free Jvm.Stand Jvm.LawKit Jvm.RoadKit Bundle Jvm.Pilot.@@N@@.Jvm.D
section OwnRet
variable {p : Program} {l : Launch} {e : Env} {R : Room} {s : State} {m : MethodId} {args : Array Value} {below : List Frame} {meth : Method} {c : Code} {T : State} {locs : List Loc} {cells slots : Nat}
theorem own_retN (X : Stand p l e R s m args below meth c T locs cells slots) (hx : p.tables.exec = Jvm.exec) {pc : Nat} {Ls : Array Slot} {z : Int32} {t : FieldType} {rest : List Value} (hret : meth.sig.returnType = some t) (ht : t = .boolean ∨ t = .byte ∨ t = .char ∨ t = .short) (hz : nar t z = z)
    (hd : decode c.code pc = .ok (.ireturn, 1)) {fs : List Frame} (hl : ∀ (f : JFrame) (acts : List Action), f.method = m → f.locked = none → f.entered = [] → (doReturn e (T.setTop f) acts (some (.int z))).1 = T.setFrames fs) :
    Steps p.tables e below (T.setTop (mkF m pc Ls (.int z :: rest))) (T.setFrames fs) := retN X hx hret ht hd (by rw [hz]; exact hl)
theorem own_nb {z : Int32} (h : z = 0 ∨ z = 1) : nar .boolean z = z := by rcases h with rfl | rfl <;> rfl
end OwnRet
theorem own_ext {h0 h : Heap} (K : Keep h0 h []) : Ext h0 h := ⟨K.1, fun a c q => K.2.1 a c q nin0⟩
theorem own_root {Z : State} {a0 : Array Value} {O K : String} {n : Nat} (w : (Cond.noSuperclass O).before a0 Z = true) (wk : (Cond.instantiable K n).before a0 Z = true) (hn : O ≠ K) : NS Z O K := by
  obtain ⟨c, k, h1, h2, h3, -, -⟩ := Cond.noSuperclass_spec w
  obtain ⟨t, kt, g1, -⟩ := Cond.instantiable_spec wk
  have ne := ids_ne h1 g1 hn
  refine ⟨c, t, h1, g1, fun fuel => ?_⟩
  cases fuel with
  | zero => rfl
  | succ f => simp [Vm.isSubclassAux, ne, h2, h3]
theorem own_no {Z : State} {a0 : Array Value} {C S K : String} {n : Nat} (w : (Cond.superclass C S).before a0 Z = true) (wk : (Cond.instantiable K n).before a0 Z = true) (ns : NS Z C K) (hn : C ≠ K) : ∃ c t, Z.vm.findClass C = some c ∧ Z.vm.findClass K = some t ∧ Z.vm.assignable c t = false := by
  obtain ⟨c, t, h0, g0, n3⟩ := ns
  obtain ⟨p, k, kp, h1, h2, h3, h4, h5, -, h7⟩ := Cond.superclass_spec h0 w
  obtain ⟨t', k', g1, g2, g3, g4, -⟩ := Cond.instantiable_spec wk
  cases g0.symm.trans g1
  have g7 : k'.isInterface = false := (Bool.or_eq_false_iff.mp g4).1
  have ne := ids_ne h0 g0 hn
  refine ⟨c, t, h0, g0, ?_⟩
  show Z.vm.assignableAux (255 + 1) c t = false
  simp [Vm.assignableAux, ne, h2, g2, h5, g3, g7, Vm.isSubclass, n3]
theorem own_nbv {z : Int32} (h : z = 0 ∨ z = 1) : narrow .boolean (.int z) = .int z := by rcases h with rfl | rfl <;> rfl
theorem own_fb {z : Int32} (h : z = 0 ∨ z = 1) : fits .boolean (.int z) = true := by rcases h with rfl | rfl <;> rfl
theorem own_len {s : State} {args : Array Value} {t : Term} {a : Addr} {cl : Cell} {n : Int32} (ev : t.eval args s none [] s = some (.ref a)) (ha : s.arrayAt? a = some cl) (h : (Term.length t).eval args s none [] s = some (.int n)) : cl.slots.size < 2 ^ 31 ∧ cl.slots.size.toInt32 = n := by
  by_cases hl : cl.slots.size < 2 ^ 31
  · exact ⟨hl, Value.int.inj (Option.some.inj ((len_f ev ha hl).symm.trans h))⟩
  · simp [Term.eval, ev, ha, hl] at h
def own_eqv (xa xb : Addr) (y0 y1 z0 z1 : Int32) : Int32 := if xa = xb then 1 else if y0 = z0 then (if y1 = z1 then 1 else 0) else 0
theorem dr_0 : decode jdk_30_method_1_code 0 = .ok (.aload_n 0, 1) := by decide +kernel
theorem dr_1 : decode jdk_30_method_1_code 1 = .ok (.invokespecial 1, 3) := by decide +kernel
theorem dr_4 : decode jdk_30_method_1_code 4 = .ok (.return_, 1) := by decide +kernel
theorem dn_0 : decode jdk_18_method_1_code 0 = .ok (.aload_n 0, 1) := by decide +kernel
theorem dn_1 : decode jdk_18_method_1_code 1 = .ok (.invokespecial 1, 3) := by decide +kernel
theorem dn_4 : decode jdk_18_method_1_code 4 = .ok (.return_, 1) := by decide +kernel
theorem dh_0 : decode prog_9_method_1_code 0 = .ok (.aload_n 0, 1) := by decide +kernel
theorem dh_1 : decode prog_9_method_1_code 1 = .ok (.invokespecial 1, 3) := by decide +kernel
theorem dh_4 : decode prog_9_method_1_code 4 = .ok (.aload_n 0, 1) := by decide +kernel
theorem dh_5 : decode prog_9_method_1_code 5 = .ok (.iload_n 1, 1) := by decide +kernel
theorem dh_6 : decode prog_9_method_1_code 6 = .ok (.putfield 7, 3) := by decide +kernel
theorem dh_9 : decode prog_9_method_1_code 9 = .ok (.aload_n 0, 1) := by decide +kernel
theorem dh_10 : decode prog_9_method_1_code 10 = .ok (.iload_n 2, 1) := by decide +kernel
theorem dh_11 : decode prog_9_method_1_code 11 = .ok (.putfield 13, 3) := by decide +kernel
theorem dh_14 : decode prog_9_method_1_code 14 = .ok (.return_, 1) := by decide +kernel
theorem di_0 : decode jdk_33_method_23_code 0 = .ok (.aload_n 0, 1) := by decide +kernel
theorem di_1 : decode jdk_33_method_23_code 1 = .ok (.invokespecial 202, 3) := by decide +kernel
theorem di_4 : decode jdk_33_method_23_code 4 = .ok (.aload_n 0, 1) := by decide +kernel
theorem di_5 : decode jdk_33_method_23_code 5 = .ok (.iload_n 1, 1) := by decide +kernel
theorem di_6 : decode jdk_33_method_23_code 6 = .ok (.putfield 205, 3) := by decide +kernel
theorem di_9 : decode jdk_33_method_23_code 9 = .ok (.return_, 1) := by decide +kernel
theorem dv_0 : decode jdk_33_method_22_code 0 = .ok (.iload_n 0, 1) := by decide +kernel
theorem dv_1 : decode jdk_33_method_22_code 1 = .ok (.bipush (-128), 2) := by decide +kernel
theorem dv_3 : decode jdk_33_method_22_code 3 = .ok (.if_icmp .lt 20, 3) := by decide +kernel
theorem dv_6 : decode jdk_33_method_22_code 6 = .ok (.iload_n 0, 1) := by decide +kernel
theorem dv_7 : decode jdk_33_method_22_code 7 = .ok (.getstatic 191, 3) := by decide +kernel
theorem dv_10 : decode jdk_33_method_22_code 10 = .ok (.if_icmp .gt 13, 3) := by decide +kernel
theorem dv_13 : decode jdk_33_method_22_code 13 = .ok (.getstatic 195, 3) := by decide +kernel
theorem dv_16 : decode jdk_33_method_22_code 16 = .ok (.iload_n 0, 1) := by decide +kernel
theorem dv_17 : decode jdk_33_method_22_code 17 = .ok (.sipush 128, 3) := by decide +kernel
theorem dv_20 : decode jdk_33_method_22_code 20 = .ok (.iadd, 1) := by decide +kernel
theorem dv_21 : decode jdk_33_method_22_code 21 = .ok (.aaload, 1) := by decide +kernel
theorem dv_22 : decode jdk_33_method_22_code 22 = .ok (.areturn, 1) := by decide +kernel
theorem dv_23 : decode jdk_33_method_22_code 23 = .ok (.new 1, 3) := by decide +kernel
theorem dv_26 : decode jdk_33_method_22_code 26 = .ok (.dup, 1) := by decide +kernel
theorem dv_27 : decode jdk_33_method_22_code 27 = .ok (.iload_n 0, 1) := by decide +kernel
theorem dv_28 : decode jdk_33_method_22_code 28 = .ok (.invokespecial 199, 3) := by decide +kernel
theorem dv_31 : decode jdk_33_method_22_code 31 = .ok (.areturn, 1) := by decide +kernel
theorem de_0 : decode prog_9_method_6_code 0 = .ok (.aload_n 0, 1) := by decide +kernel
theorem de_1 : decode prog_9_method_6_code 1 = .ok (.aload_n 1, 1) := by decide +kernel
theorem de_2 : decode prog_9_method_6_code 2 = .ok (.if_acmp .eq 37, 3) := by decide +kernel
theorem de_5 : decode prog_9_method_6_code 5 = .ok (.aload_n 1, 1) := by decide +kernel
theorem de_6 : decode prog_9_method_6_code 6 = .ok (.instanceof 8, 3) := by decide +kernel
theorem de_9 : decode prog_9_method_6_code 9 = .ok (.ifCond .eq 34, 3) := by decide +kernel
theorem de_12 : decode prog_9_method_6_code 12 = .ok (.aload_n 1, 1) := by decide +kernel
theorem de_13 : decode prog_9_method_6_code 13 = .ok (.checkcast 8, 3) := by decide +kernel
theorem de_16 : decode prog_9_method_6_code 16 = .ok (.astore_n 2, 1) := by decide +kernel
theorem de_17 : decode prog_9_method_6_code 17 = .ok (.aload_n 0, 1) := by decide +kernel
theorem de_18 : decode prog_9_method_6_code 18 = .ok (.getfield 7, 3) := by decide +kernel
theorem de_21 : decode prog_9_method_6_code 21 = .ok (.aload_n 2, 1) := by decide +kernel
theorem de_22 : decode prog_9_method_6_code 22 = .ok (.getfield 7, 3) := by decide +kernel
theorem de_25 : decode prog_9_method_6_code 25 = .ok (.if_icmp .ne 18, 3) := by decide +kernel
theorem de_28 : decode prog_9_method_6_code 28 = .ok (.aload_n 0, 1) := by decide +kernel
theorem de_29 : decode prog_9_method_6_code 29 = .ok (.getfield 13, 3) := by decide +kernel
theorem de_32 : decode prog_9_method_6_code 32 = .ok (.aload_n 2, 1) := by decide +kernel
theorem de_33 : decode prog_9_method_6_code 33 = .ok (.getfield 13, 3) := by decide +kernel
theorem de_36 : decode prog_9_method_6_code 36 = .ok (.if_icmp .ne 7, 3) := by decide +kernel
theorem de_39 : decode prog_9_method_6_code 39 = .ok (.iconst 1, 1) := by decide +kernel
theorem de_40 : decode prog_9_method_6_code 40 = .ok (.goto 4, 3) := by decide +kernel
theorem de_43 : decode prog_9_method_6_code 43 = .ok (.iconst 0, 1) := by decide +kernel
theorem de_44 : decode prog_9_method_6_code 44 = .ok (.ireturn, 1) := by decide +kernel
theorem own_pn0 : plainName "java/lang/Record" = true := by first | (simp [plainName, overriddenIn]; done) | decide +kernel
theorem own_pn1 : plainName "java/lang/Number" = true := by first | (simp [plainName, overriddenIn]; done) | decide +kernel
theorem own_pn2 : plainName "com/example/ennead/ennead/model/Hex" = true := by first | (simp [plainName, overriddenIn]; done) | decide +kernel
theorem own_pn3 : plainName "java/lang/Integer" = true := by first | (simp [plainName, overriddenIn]; done) | decide +kernel
theorem own_pn4 : plainName "com/example/ennead/ennead/model/HexEqualsPinLaw" = true := by first | (simp [plainName, overriddenIn]; done) | decide +kernel
theorem own_pd0 : parseMethodDescriptor "()V" = some ⟨[], none⟩ := by decide +kernel
theorem own_pd1 : parseMethodDescriptor "(I)V" = some ⟨[.int], none⟩ := by decide +kernel
theorem own_pd2 : parseMethodDescriptor "(II)V" = some ⟨[.int, .int], none⟩ := by decide +kernel
theorem own_pd3 : parseMethodDescriptor "(Ljava/lang/Object;)Z" = some ⟨[(.object "java/lang/Object")], some .boolean⟩ := by decide +kernel
theorem own_pd4 : parseMethodDescriptor "(I)Ljava/lang/Integer;" = some ⟨[.int], some (.object "java/lang/Integer")⟩ := by decide +kernel
def own_rec_Q (Z : State) (xa : Addr) (h0 : Heap) (n0 : Nat) (v : Option Value) (h : Heap) (L : List Loc) : Prop := v = none ∧ Fr n0 L ∧ h = h0
theorem own_rec_ef (m : MethodId) (x0 : Addr) : entryFrame m #[(.ref x0)] 1 = mkF m 0 #[.val (.ref x0)] [] := by first | (simp [entryFrame, mkF, argsToLocals, Value.category]; done) | rfl
set_option maxRecDepth 65536 in
set_option maxHeartbeats 40000000 in
theorem own_rec (l : Launch) (Z : State) (a0 : Array Value) (hw : ∀ d ∈ tables_1, d.before a0 Z = true) (ws : List Jvm.Cond) (xa : Addr) (h0 : Heap) (n0 : Nat) (Z0 : n0 ≤ h0.size)  :
    MetFree l (⟨"java/lang/Record", "<init>", "()V"⟩ : MethodName) (head1 (Jvm.Cond.code (⟨"java/lang/Record", "<init>", "()V"⟩ : MethodName) jdk_30_method_1_code 1 none :: ws) ({ frames := 1, cells := 0, slots := 0, locals := 12 } : Room)) (fun a U => a = #[(.ref xa)] ∧ Z.Warmed39 U.vm ∧ U.heap = h0) (fun _ _ _ _ _ => True) (fun _ U o U' => ∃ v L, o = .returned v ∧ own_rec_Q Z xa h0 n0 v U'.heap L ∧ FrameEnd U o U' L ({ frames := 1, cells := 0, slots := 0, locals := 12 } : Room).cells ({ frames := 1, cells := 0, slots := 0, locals := 12 } : Room).slots) := by
  refine MetFree.of_bodySF (plainFor_of_name own_pn0) hisR ?_
  intro p e s m args below meth c s₁ Bd hml0 hP hK
  obtain ⟨rfl, hZ, hh⟩ := hP
  have hx := Bd.exec
  have hby := Bd.bytes
  have hml : c.maxLocals = 1 := hml0
  have hown : s.vm.findClass "java/lang/Record" = some m.cls := findClass_of_methodNamed Bd.named
  have hnm := (name_of_methodNamed Bd.named Bd.method).1
  have X0 : Stand p l e ({ frames := 1, cells := 0, slots := 0, locals := 12 } : Room) s m #[(.ref xa)] below meth c s₁ [] 0 0 := Stand.of_body Bd
  have e0 : s₁.heap = h0 := by rw [← hh, Bd.state]; rfl
  have N0 := Fr.nil n0
  have A0 : ∀ t, Steps p.tables e below (s₁.setTop (mkF m 0 #[.val (.ref xa)] [])) t → Steps p.tables e below (s₁.setTop (entryFrame m #[(.ref xa)] 1)) t := fun t k => castTop (own_rec_ef m xa) k
  have A1 : ∀ t, Steps p.tables e below (s₁.setTop (mkF m 1 #[.val (.ref xa)] [(.ref xa)])) t → Steps p.tables e below (s₁.setTop (entryFrame m #[(.ref xa)] 1)) t := by
    intro t k
    refine A0 _ ?_
    refine XS.aloadN X0.here hx rfl (hb hby dr_0) rfl rfl ?_
    show Steps p.tables e below (s₁.setTop (mkF m 1 #[.val (.ref xa)] [(.ref xa)])) _
    exact k
  obtain ⟨T2, X2, e2, st2⟩ := initO X0 hx hZ hown (hw _ (List.mem_of_getElem? (i := 11) rfl)) (hw _ (List.mem_of_getElem? (i := 12) rfl)) (hw _ (List.mem_of_getElem? (i := 13) rfl)) e0 (g := (mkF m 1 #[.val (.ref xa)] [(.ref xa)])) rfl (by rw [hml]; rfl) rfl (hb hby dr_1) (by decide) (W := 0) (by show 2 * 0 + _ ≤ _; exact Nat.le_of_eq rfl) (by decide)
  have A3 : ∀ t, Steps p.tables e below (T2.setTop (mkF m 4 #[.val (.ref xa)] [])) t → Steps p.tables e below (s₁.setTop (entryFrame m #[(.ref xa)] 1)) t := by
    intro t k
    refine A1 _ ?_
    refine st2 _ ?_
    show Steps p.tables e below (T2.setTop (mkF m 4 #[.val (.ref xa)] [])) _
    exact k
  obtain ⟨fs, hr, hrun, hended, hW, hsame⟩ := X2.leave (v := none) (fun _ => rfl)
  refine ⟨_, _, A3 _ ?_, hrun, hended, _, _, rfl, ?_, ⟨_, rfl⟩, hW, hsame.mono (by decide) (by decide)⟩
  · exact X2.returnOut hx Bd.returns (hb hby dr_4) hr
  · show own_rec_Q Z xa h0 n0 _ T2.heap _
    rw [e2]
    exact ⟨rfl, N0, rfl⟩
def own_num_Q (Z : State) (xa : Addr) (h0 : Heap) (n0 : Nat) (v : Option Value) (h : Heap) (L : List Loc) : Prop := v = none ∧ Fr n0 L ∧ h = h0
theorem own_num_ef (m : MethodId) (x0 : Addr) : entryFrame m #[(.ref x0)] 1 = mkF m 0 #[.val (.ref x0)] [] := by first | (simp [entryFrame, mkF, argsToLocals, Value.category]; done) | rfl
set_option maxRecDepth 65536 in
set_option maxHeartbeats 40000000 in
theorem own_num (l : Launch) (Z : State) (a0 : Array Value) (hw : ∀ d ∈ tables_1, d.before a0 Z = true) (ws : List Jvm.Cond) (xa : Addr) (h0 : Heap) (n0 : Nat) (Z0 : n0 ≤ h0.size)  :
    MetFree l (⟨"java/lang/Number", "<init>", "()V"⟩ : MethodName) (head1 (Jvm.Cond.code (⟨"java/lang/Number", "<init>", "()V"⟩ : MethodName) jdk_18_method_1_code 1 none :: ws) ({ frames := 1, cells := 0, slots := 0, locals := 12 } : Room)) (fun a U => a = #[(.ref xa)] ∧ Z.Warmed39 U.vm ∧ U.heap = h0) (fun _ _ _ _ _ => True) (fun _ U o U' => ∃ v L, o = .returned v ∧ own_num_Q Z xa h0 n0 v U'.heap L ∧ FrameEnd U o U' L ({ frames := 1, cells := 0, slots := 0, locals := 12 } : Room).cells ({ frames := 1, cells := 0, slots := 0, locals := 12 } : Room).slots) := by
  refine MetFree.of_bodySF (plainFor_of_name own_pn1) hisR ?_
  intro p e s m args below meth c s₁ Bd hml0 hP hK
  obtain ⟨rfl, hZ, hh⟩ := hP
  have hx := Bd.exec
  have hby := Bd.bytes
  have hml : c.maxLocals = 1 := hml0
  have hown : s.vm.findClass "java/lang/Number" = some m.cls := findClass_of_methodNamed Bd.named
  have hnm := (name_of_methodNamed Bd.named Bd.method).1
  have X0 : Stand p l e ({ frames := 1, cells := 0, slots := 0, locals := 12 } : Room) s m #[(.ref xa)] below meth c s₁ [] 0 0 := Stand.of_body Bd
  have e0 : s₁.heap = h0 := by rw [← hh, Bd.state]; rfl
  have N0 := Fr.nil n0
  have A0 : ∀ t, Steps p.tables e below (s₁.setTop (mkF m 0 #[.val (.ref xa)] [])) t → Steps p.tables e below (s₁.setTop (entryFrame m #[(.ref xa)] 1)) t := fun t k => castTop (own_num_ef m xa) k
  have A4 : ∀ t, Steps p.tables e below (s₁.setTop (mkF m 1 #[.val (.ref xa)] [(.ref xa)])) t → Steps p.tables e below (s₁.setTop (entryFrame m #[(.ref xa)] 1)) t := by
    intro t k
    refine A0 _ ?_
    refine XS.aloadN X0.here hx rfl (hb hby dn_0) rfl rfl ?_
    show Steps p.tables e below (s₁.setTop (mkF m 1 #[.val (.ref xa)] [(.ref xa)])) _
    exact k
  obtain ⟨T5, X5, e5, st5⟩ := initO X0 hx hZ hown (hw _ (List.mem_of_getElem? (i := 47) rfl)) (hw _ (List.mem_of_getElem? (i := 12) rfl)) (hw _ (List.mem_of_getElem? (i := 13) rfl)) e0 (g := (mkF m 1 #[.val (.ref xa)] [(.ref xa)])) rfl (by rw [hml]; rfl) rfl (hb hby dn_1) (by decide) (W := 0) (by show 2 * 0 + _ ≤ _; exact Nat.le_of_eq rfl) (by decide)
  have A6 : ∀ t, Steps p.tables e below (T5.setTop (mkF m 4 #[.val (.ref xa)] [])) t → Steps p.tables e below (s₁.setTop (entryFrame m #[(.ref xa)] 1)) t := by
    intro t k
    refine A4 _ ?_
    refine st5 _ ?_
    show Steps p.tables e below (T5.setTop (mkF m 4 #[.val (.ref xa)] [])) _
    exact k
  obtain ⟨fs, hr, hrun, hended, hW, hsame⟩ := X5.leave (v := none) (fun _ => rfl)
  refine ⟨_, _, A6 _ ?_, hrun, hended, _, _, rfl, ?_, ⟨_, rfl⟩, hW, hsame.mono (by decide) (by decide)⟩
  · exact X5.returnOut hx Bd.returns (hb hby dn_4) hr
  · show own_num_Q Z xa h0 n0 _ T5.heap _
    rw [e5]
    exact ⟨rfl, N0, rfl⟩
def own_hex_Q (Z : State) (xa : Addr) (x0 x1 : Int32) (h0 : Heap) (n0 : Nat) (v : Option Value) (h : Heap) (L : List Loc) : Prop := v = none ∧ Fr n0 L ∧ Keep h0 h [xa] ∧ Exa Z h xa "com/example/ennead/ennead/model/Hex" ∧ Fld Z h xa "com/example/ennead/ennead/model/Hex" "column" "I" (.int x0) ∧ Fld Z h xa "com/example/ennead/ennead/model/Hex" "row" "I" (.int x1)
theorem own_hex_ef (m : MethodId) (x0 : Addr) (x1 : Int32) (x2 : Int32) : entryFrame m #[(.ref x0), (.int x1), (.int x2)] 3 = mkF m 0 #[.val (.ref x0), .val (.int x1), .val (.int x2)] [] := by first | (simp [entryFrame, mkF, argsToLocals, Value.category]; done) | rfl
set_option maxRecDepth 65536 in
set_option maxHeartbeats 40000000 in
theorem own_hex (l : Launch) (Z : State) (a0 : Array Value) (hw : ∀ d ∈ tables_1, d.before a0 Z = true) (ws : List Jvm.Cond) (xa : Addr) (x0 x1 : Int32) (h0 : Heap) (n0 : Nat) (Z0 : n0 ≤ h0.size) (E0 : Exa Z h0 xa "com/example/ennead/ennead/model/Hex") (g0 : n0 ≤ xa) (F0 : Fld Z h0 xa "com/example/ennead/ennead/model/Hex" "column" "I" (.int (0 : Int32))) (F1 : Fld Z h0 xa "com/example/ennead/ennead/model/Hex" "row" "I" (.int (0 : Int32)))  :
    MetFree l (⟨"com/example/ennead/ennead/model/Hex", "<init>", "(II)V"⟩ : MethodName) (head1 (Jvm.Cond.code (⟨"com/example/ennead/ennead/model/Hex", "<init>", "(II)V"⟩ : MethodName) prog_9_method_1_code 3 none :: ws) ({ frames := 2, cells := 0, slots := 0, locals := 24 } : Room)) (fun a U => a = #[(.ref xa), (.int x0), (.int x1)] ∧ Z.Warmed39 U.vm ∧ U.heap = h0) (fun _ _ _ _ _ => True) (fun _ U o U' => ∃ v L, o = .returned v ∧ own_hex_Q Z xa x0 x1 h0 n0 v U'.heap L ∧ FrameEnd U o U' L ({ frames := 2, cells := 0, slots := 0, locals := 24 } : Room).cells ({ frames := 2, cells := 0, slots := 0, locals := 24 } : Room).slots) := by
  refine MetFree.of_bodySF (plainFor_of_name own_pn2) hisR ?_
  intro p e s m args below meth c s₁ Bd hml0 hP hK
  obtain ⟨rfl, hZ, hh⟩ := hP
  have hx := Bd.exec
  have hby := Bd.bytes
  have hml : c.maxLocals = 3 := hml0
  have hown : s.vm.findClass "com/example/ennead/ennead/model/Hex" = some m.cls := findClass_of_methodNamed Bd.named
  have hnm := (name_of_methodNamed Bd.named Bd.method).1
  have X0 : Stand p l e ({ frames := 2, cells := 0, slots := 0, locals := 24 } : Room) s m #[(.ref xa), (.int x0), (.int x1)] below meth c s₁ [] 0 0 := Stand.of_body Bd
  have e0 : s₁.heap = h0 := by rw [← hh, Bd.state]; rfl
  have N0 := Fr.nil n0
  have A0 : ∀ t, Steps p.tables e below (s₁.setTop (mkF m 0 #[.val (.ref xa), .val (.int x0), .val (.int x1)] [])) t → Steps p.tables e below (s₁.setTop (entryFrame m #[(.ref xa), (.int x0), (.int x1)] 3)) t := fun t k => castTop (own_hex_ef m xa x0 x1) k
  have A7 : ∀ t, Steps p.tables e below (s₁.setTop (mkF m 1 #[.val (.ref xa), .val (.int x0), .val (.int x1)] [(.ref xa)])) t → Steps p.tables e below (s₁.setTop (entryFrame m #[(.ref xa), (.int x0), (.int x1)] 3)) t := by
    intro t k
    refine A0 _ ?_
    refine XS.aloadN X0.here hx rfl (hb hby dh_0) rfl rfl ?_
    show Steps p.tables e below (s₁.setTop (mkF m 1 #[.val (.ref xa), .val (.int x0), .val (.int x1)] [(.ref xa)])) _
    exact k
  obtain ⟨_, _, ⟨T8, L8, k8, n8⟩, -, X8, ⟨Lc8, hQ8, l8, y8, z8⟩, st8⟩ := X0.specialBack hx (y := (⟨"java/lang/Record", "<init>", "()V"⟩ : MethodName)) rfl hown (mvT hZ (hw _ (List.mem_of_getElem? (i := 6) rfl))) (mvT hZ (hw _ (List.mem_of_getElem? (i := 7) rfl))) (mvT hZ (hw _ (List.mem_of_getElem? (i := 10) rfl))) (by decide) (backOf (W := 0) (own_rec l Z a0 hw [] xa h0 n0 Z0) hZ (hw _ (List.mem_of_getElem? (i := 10) rfl)) (hw _ (List.mem_of_getElem? (i := 9) rfl)) (by decide) (by decide)) (g := (mkF m 1 #[.val (.ref xa), .val (.int x0), .val (.int x1)] [(.ref xa)])) rfl (by rw [hml]; rfl) (Steps.refl _) (a := xa) (argsL := []) (rest := []) (lenOf own_pd0 rfl) rfl (by show 2 * 0 + _ ≤ _; exact Nat.le_of_eq rfl) (hb hby dh_1) (fun _ _ => ⟨rfl, e0, (by decide : 0 + 0 ≤ _), (by decide : 0 + 0 ≤ _)⟩)
  dsimp only [Pt.U, Pt.locs, Pt.cells, Pt.slots] at X8 l8 y8 z8 st8 hQ8
  subst l8 y8 z8
  obtain ⟨rfl, Nq8, eh8⟩ := hQ8
  have Nf9 := Fr.app N0 Nq8
  have A10 : ∀ t, Steps p.tables e below (T8.setTop (mkF m 6 #[.val (.ref xa), .val (.int x0), .val (.int x1)] [(.int x0), (.ref xa)])) t → Steps p.tables e below (s₁.setTop (entryFrame m #[(.ref xa), (.int x0), (.int x1)] 3)) t := by
    intro t k
    refine A7 _ ?_
    refine st8.trans ?_
    show Steps p.tables e below (T8.setTop (mkF m 4 #[.val (.ref xa), .val (.int x0), .val (.int x1)] [])) _
    refine XS.aloadN X8.here hx rfl (hb hby dh_4) rfl rfl ?_
    show Steps p.tables e below (T8.setTop (mkF m 5 #[.val (.ref xa), .val (.int x0), .val (.int x1)] [(.ref xa)])) _
    refine XS.iloadN X8.here hx rfl (hb hby dh_5) rfl ?_
    show Steps p.tables e below (T8.setTop (mkF m 6 #[.val (.ref xa), .val (.int x0), .val (.int x1)] [(.int x0), (.ref xa)])) _
    exact k
  obtain ⟨T11, h11, X11, e11, W11, st11⟩ := putF X8 hx hZ hown (host := "") (Or.inl (hw _ (List.mem_of_getElem? (i := 14) rfl))) Via.refl eh8 F0 E0 (Or.inr ⟨(hw _ (List.mem_of_getElem? (i := 15) rfl)), rfl, hnm⟩) (hw _ (List.mem_of_getElem? (i := 1) rfl)) (ty := .int) (by decide) rfl rfl (g := (mkF m 6 #[.val (.ref xa), .val (.int x0), .val (.int x1)] [(.int x0), (.ref xa)])) rfl rfl (hb hby dh_6)
  have Ex12 := E0.wr W11
  have Fl13 := F0.same W11
  have Fl14 := F1.other W11 (Or.inr (slot_ne (Or.inr (hw _ (List.mem_of_getElem? (i := 17) rfl))) (Or.inr (hw _ (List.mem_of_getElem? (i := 15) rfl))) (by decide) (t := .int) (t' := .int) (by decide) (by decide)))
  have Zs15 := Nat.le_trans Z0 (Keep.of_wr W11).1
  have Nf16 := Fr.snoc X11 Nf9 g0
  have Kp17 := (Keep.refl h0 [xa]).wr W11 (Or.inl (List.mem_of_getElem? (i := 0) rfl))
  have A18 : ∀ t, Steps p.tables e below (T11.setTop (mkF m 11 #[.val (.ref xa), .val (.int x0), .val (.int x1)] [(.int x1), (.ref xa)])) t → Steps p.tables e below (s₁.setTop (entryFrame m #[(.ref xa), (.int x0), (.int x1)] 3)) t := by
    intro t k
    refine A10 _ ?_
    refine st11 _ ?_
    show Steps p.tables e below (T11.setTop (mkF m 9 #[.val (.ref xa), .val (.int x0), .val (.int x1)] [])) _
    refine XS.aloadN X11.here hx rfl (hb hby dh_9) rfl rfl ?_
    show Steps p.tables e below (T11.setTop (mkF m 10 #[.val (.ref xa), .val (.int x0), .val (.int x1)] [(.ref xa)])) _
    refine XS.iloadN X11.here hx rfl (hb hby dh_10) rfl ?_
    show Steps p.tables e below (T11.setTop (mkF m 11 #[.val (.ref xa), .val (.int x0), .val (.int x1)] [(.int x1), (.ref xa)])) _
    exact k
  obtain ⟨T19, h19, X19, e19, W19, st19⟩ := putF X11 hx hZ hown (host := "") (Or.inl (hw _ (List.mem_of_getElem? (i := 16) rfl))) Via.refl e11 Fl14 Ex12 (Or.inr ⟨(hw _ (List.mem_of_getElem? (i := 17) rfl)), rfl, hnm⟩) (hw _ (List.mem_of_getElem? (i := 1) rfl)) (ty := .int) (by decide) rfl rfl (g := (mkF m 11 #[.val (.ref xa), .val (.int x0), .val (.int x1)] [(.int x1), (.ref xa)])) rfl rfl (hb hby dh_11)
  have Ex20 := Ex12.wr W19
  have Fl21 := Fl13.other W19 (Or.inr (slot_ne (Or.inr (hw _ (List.mem_of_getElem? (i := 15) rfl))) (Or.inr (hw _ (List.mem_of_getElem? (i := 17) rfl))) (by decide) (t := .int) (t' := .int) (by decide) (by decide)))
  have Fl22 := Fl14.same W19
  have Zs23 := Nat.le_trans Zs15 (Keep.of_wr W19).1
  have Nf24 := Fr.snoc X19 Nf16 g0
  have Kp25 := Kp17.wr W19 (Or.inl (List.mem_of_getElem? (i := 0) rfl))
  have A26 : ∀ t, Steps p.tables e below (T19.setTop (mkF m 14 #[.val (.ref xa), .val (.int x0), .val (.int x1)] [])) t → Steps p.tables e below (s₁.setTop (entryFrame m #[(.ref xa), (.int x0), (.int x1)] 3)) t := by
    intro t k
    refine A18 _ ?_
    refine st19 _ ?_
    show Steps p.tables e below (T19.setTop (mkF m 14 #[.val (.ref xa), .val (.int x0), .val (.int x1)] [])) _
    exact k
  obtain ⟨fs, hr, hrun, hended, hW, hsame⟩ := X19.leave (v := none) (fun _ => rfl)
  refine ⟨_, _, A26 _ ?_, hrun, hended, _, _, rfl, ?_, ⟨_, rfl⟩, hW, hsame.mono (by decide) (by decide)⟩
  · exact X19.returnOut hx Bd.returns (hb hby dh_14) hr
  · show own_hex_Q Z xa x0 x1 h0 n0 _ T19.heap _
    rw [e19]
    exact ⟨rfl, Nf24, Kp25, Ex20, Fl21, Fl22⟩
def own_int_Q (Z : State) (xa : Addr) (x0 : Int32) (h0 : Heap) (n0 : Nat) (v : Option Value) (h : Heap) (L : List Loc) : Prop := v = none ∧ Fr n0 L ∧ Keep h0 h [xa] ∧ Exa Z h xa "java/lang/Integer" ∧ Fld Z h xa "java/lang/Integer" "value" "I" (.int x0)
theorem own_int_ef (m : MethodId) (x0 : Addr) (x1 : Int32) : entryFrame m #[(.ref x0), (.int x1)] 2 = mkF m 0 #[.val (.ref x0), .val (.int x1)] [] := by first | (simp [entryFrame, mkF, argsToLocals, Value.category]; done) | rfl
set_option maxRecDepth 65536 in
set_option maxHeartbeats 40000000 in
theorem own_int (l : Launch) (Z : State) (a0 : Array Value) (hw : ∀ d ∈ tables_1, d.before a0 Z = true) (ws : List Jvm.Cond) (xa : Addr) (x0 : Int32) (h0 : Heap) (n0 : Nat) (Z0 : n0 ≤ h0.size) (E0 : Exa Z h0 xa "java/lang/Integer") (g0 : n0 ≤ xa) (F0 : Fld Z h0 xa "java/lang/Integer" "value" "I" (.int (0 : Int32)))  :
    MetFree l (⟨"java/lang/Integer", "<init>", "(I)V"⟩ : MethodName) (head1 (Jvm.Cond.code (⟨"java/lang/Integer", "<init>", "(I)V"⟩ : MethodName) jdk_33_method_23_code 2 none :: ws) ({ frames := 2, cells := 0, slots := 0, locals := 24 } : Room)) (fun a U => a = #[(.ref xa), (.int x0)] ∧ Z.Warmed39 U.vm ∧ U.heap = h0) (fun _ _ _ _ _ => True) (fun _ U o U' => ∃ v L, o = .returned v ∧ own_int_Q Z xa x0 h0 n0 v U'.heap L ∧ FrameEnd U o U' L ({ frames := 2, cells := 0, slots := 0, locals := 24 } : Room).cells ({ frames := 2, cells := 0, slots := 0, locals := 24 } : Room).slots) := by
  refine MetFree.of_bodySF (plainFor_of_name own_pn3) hisR ?_
  intro p e s m args below meth c s₁ Bd hml0 hP hK
  obtain ⟨rfl, hZ, hh⟩ := hP
  have hx := Bd.exec
  have hby := Bd.bytes
  have hml : c.maxLocals = 2 := hml0
  have hown : s.vm.findClass "java/lang/Integer" = some m.cls := findClass_of_methodNamed Bd.named
  have hnm := (name_of_methodNamed Bd.named Bd.method).1
  have X0 : Stand p l e ({ frames := 2, cells := 0, slots := 0, locals := 24 } : Room) s m #[(.ref xa), (.int x0)] below meth c s₁ [] 0 0 := Stand.of_body Bd
  have e0 : s₁.heap = h0 := by rw [← hh, Bd.state]; rfl
  have N0 := Fr.nil n0
  have A0 : ∀ t, Steps p.tables e below (s₁.setTop (mkF m 0 #[.val (.ref xa), .val (.int x0)] [])) t → Steps p.tables e below (s₁.setTop (entryFrame m #[(.ref xa), (.int x0)] 2)) t := fun t k => castTop (own_int_ef m xa x0) k
  have A27 : ∀ t, Steps p.tables e below (s₁.setTop (mkF m 1 #[.val (.ref xa), .val (.int x0)] [(.ref xa)])) t → Steps p.tables e below (s₁.setTop (entryFrame m #[(.ref xa), (.int x0)] 2)) t := by
    intro t k
    refine A0 _ ?_
    refine XS.aloadN X0.here hx rfl (hb hby di_0) rfl rfl ?_
    show Steps p.tables e below (s₁.setTop (mkF m 1 #[.val (.ref xa), .val (.int x0)] [(.ref xa)])) _
    exact k
  obtain ⟨_, _, ⟨T28, L28, k28, n28⟩, -, X28, ⟨Lc28, hQ28, l28, y28, z28⟩, st28⟩ := X0.specialBack hx (y := (⟨"java/lang/Number", "<init>", "()V"⟩ : MethodName)) rfl hown (mvT hZ (hw _ (List.mem_of_getElem? (i := 41) rfl))) (mvT hZ (hw _ (List.mem_of_getElem? (i := 42) rfl))) (mvT hZ (hw _ (List.mem_of_getElem? (i := 46) rfl))) (by decide) (backOf (W := 0) (own_num l Z a0 hw [] xa h0 n0 Z0) hZ (hw _ (List.mem_of_getElem? (i := 46) rfl)) (hw _ (List.mem_of_getElem? (i := 45) rfl)) (by decide) (by decide)) (g := (mkF m 1 #[.val (.ref xa), .val (.int x0)] [(.ref xa)])) rfl (by rw [hml]; rfl) (Steps.refl _) (a := xa) (argsL := []) (rest := []) (lenOf own_pd0 rfl) rfl (by show 2 * 0 + _ ≤ _; exact Nat.le_of_eq rfl) (hb hby di_1) (fun _ _ => ⟨rfl, e0, (by decide : 0 + 0 ≤ _), (by decide : 0 + 0 ≤ _)⟩)
  dsimp only [Pt.U, Pt.locs, Pt.cells, Pt.slots] at X28 l28 y28 z28 st28 hQ28
  subst l28 y28 z28
  obtain ⟨rfl, Nq28, eh28⟩ := hQ28
  have Nf29 := Fr.app N0 Nq28
  have A30 : ∀ t, Steps p.tables e below (T28.setTop (mkF m 6 #[.val (.ref xa), .val (.int x0)] [(.int x0), (.ref xa)])) t → Steps p.tables e below (s₁.setTop (entryFrame m #[(.ref xa), (.int x0)] 2)) t := by
    intro t k
    refine A27 _ ?_
    refine st28.trans ?_
    show Steps p.tables e below (T28.setTop (mkF m 4 #[.val (.ref xa), .val (.int x0)] [])) _
    refine XS.aloadN X28.here hx rfl (hb hby di_4) rfl rfl ?_
    show Steps p.tables e below (T28.setTop (mkF m 5 #[.val (.ref xa), .val (.int x0)] [(.ref xa)])) _
    refine XS.iloadN X28.here hx rfl (hb hby di_5) rfl ?_
    show Steps p.tables e below (T28.setTop (mkF m 6 #[.val (.ref xa), .val (.int x0)] [(.int x0), (.ref xa)])) _
    exact k
  obtain ⟨T31, h31, X31, e31, W31, st31⟩ := putF X28 hx hZ hown (host := "") (Or.inl (hw _ (List.mem_of_getElem? (i := 48) rfl))) Via.refl eh28 F0 E0 (Or.inr ⟨(hw _ (List.mem_of_getElem? (i := 49) rfl)), rfl, hnm⟩) (hw _ (List.mem_of_getElem? (i := 36) rfl)) (ty := .int) (by decide) rfl rfl (g := (mkF m 6 #[.val (.ref xa), .val (.int x0)] [(.int x0), (.ref xa)])) rfl rfl (hb hby di_6)
  have Ex32 := E0.wr W31
  have Fl33 := F0.same W31
  have Zs34 := Nat.le_trans Z0 (Keep.of_wr W31).1
  have Nf35 := Fr.snoc X31 Nf29 g0
  have Kp36 := (Keep.refl h0 [xa]).wr W31 (Or.inl (List.mem_of_getElem? (i := 0) rfl))
  have A37 : ∀ t, Steps p.tables e below (T31.setTop (mkF m 9 #[.val (.ref xa), .val (.int x0)] [])) t → Steps p.tables e below (s₁.setTop (entryFrame m #[(.ref xa), (.int x0)] 2)) t := by
    intro t k
    refine A30 _ ?_
    refine st31 _ ?_
    show Steps p.tables e below (T31.setTop (mkF m 9 #[.val (.ref xa), .val (.int x0)] [])) _
    exact k
  obtain ⟨fs, hr, hrun, hended, hW, hsame⟩ := X31.leave (v := none) (fun _ => rfl)
  refine ⟨_, _, A37 _ ?_, hrun, hended, _, _, rfl, ?_, ⟨_, rfl⟩, hW, hsame.mono (by decide) (by decide)⟩
  · exact X31.returnOut hx Bd.returns (hb hby di_9) hr
  · show own_int_Q Z xa x0 h0 n0 _ T31.heap _
    rw [e31]
    exact ⟨rfl, Nf35, Kp36, Ex32, Fl33⟩
def own_vo_Q (Z : State) (xi : Int32) (h0 : Heap) (n0 : Nat) (v : Option Value) (h : Heap) (L : List Loc) : Prop := ∃ r : Addr, v = some (.ref r) ∧ Fr n0 L ∧ Ext h0 h ∧ Exa Z h r "java/lang/Integer"
theorem own_vo_ef (m : MethodId) (x0 : Int32) : entryFrame m #[(.int x0)] 1 = mkF m 0 #[.val (.int x0)] [] := by first | (simp [entryFrame, mkF, argsToLocals, Value.category]; done) | rfl
set_option maxRecDepth 65536 in
set_option maxHeartbeats 40000000 in
theorem own_vo (l : Launch) (Z : State) (a0 : Array Value) (hw : ∀ d ∈ tables_1, d.before a0 Z = true) (ws : List Jvm.Cond) (xi : Int32) (vc : Addr) (cc : Cell) (h0 : Heap) (n0 : Nat) (Z0 : n0 ≤ h0.size) (SH : Sta Z Z.heap "java/lang/Integer$IntegerCache" "high" "I" (.int (127 : Int32))) (SC : Sta Z Z.heap "java/lang/Integer$IntegerCache" "cache" "[Ljava/lang/Integer;" (.ref vc)) (AC : Arr Z Z.heap vc cc (.object "java/lang/Integer")) (sz : cc.slots.size = 256) (hel : ∀ j : Int32, ¬ (j < 0 ∨ cc.slots.size ≤ j.toNatClampNeg) → ∃ r : Addr, cc.slots[j.toNatClampNeg]? = some (.ref r) ∧ Exa Z Z.heap r "java/lang/Integer") (O0 : Old Z n0 h0) :
    MetFree l (⟨"java/lang/Integer", "valueOf", "(I)Ljava/lang/Integer;"⟩ : MethodName) (head1 (Jvm.Cond.code (⟨"java/lang/Integer", "valueOf", "(I)Ljava/lang/Integer;"⟩ : MethodName) jdk_33_method_22_code 1 (some (.object "java/lang/Integer")) :: ws) ({ frames := 3, cells := 1, slots := 1, locals := 38 } : Room)) (fun a U => a = #[(.int xi)] ∧ Z.Warmed39 U.vm ∧ U.heap = h0) (fun _ _ _ _ _ => True) (fun _ U o U' => ∃ v L, o = .returned v ∧ own_vo_Q Z xi h0 n0 v U'.heap L ∧ FrameEnd U o U' L ({ frames := 3, cells := 1, slots := 1, locals := 38 } : Room).cells ({ frames := 3, cells := 1, slots := 1, locals := 38 } : Room).slots) := by
  refine MetFree.of_bodySF (plainFor_of_name own_pn3) hisR ?_
  intro p e s m args below meth c s₁ Bd hml0 hP hK
  obtain ⟨rfl, hZ, hh⟩ := hP
  have hx := Bd.exec
  have hby := Bd.bytes
  have hml : c.maxLocals = 1 := hml0
  have hown : s.vm.findClass "java/lang/Integer" = some m.cls := findClass_of_methodNamed Bd.named
  have hnm := (name_of_methodNamed Bd.named Bd.method).1
  have X0 : Stand p l e ({ frames := 3, cells := 1, slots := 1, locals := 38 } : Room) s m #[(.int xi)] below meth c s₁ [] 0 0 := Stand.of_body Bd
  have e0 : s₁.heap = h0 := by rw [← hh, Bd.state]; rfl
  have N0 := Fr.nil n0
  have A0 : ∀ t, Steps p.tables e below (s₁.setTop (mkF m 0 #[.val (.int xi)] [])) t → Steps p.tables e below (s₁.setTop (entryFrame m #[(.int xi)] 1)) t := fun t k => castTop (own_vo_ef m xi) k
  have A38 : ∀ t, Steps p.tables e below (s₁.setTop (mkF m 3 #[.val (.int xi)] [(.int (-128 : Int32)), (.int xi)])) t → Steps p.tables e below (s₁.setTop (entryFrame m #[(.int xi)] 1)) t := by
    intro t k
    refine A0 _ ?_
    refine XS.iloadN X0.here hx rfl (hb hby dv_0) rfl ?_
    show Steps p.tables e below (s₁.setTop (mkF m 1 #[.val (.int xi)] [(.int xi)])) _
    refine XS.bipush X0.here hx rfl (hb hby dv_1) ?_
    show Steps p.tables e below (s₁.setTop (mkF m 3 #[.val (.int xi)] [(.int (-128 : Int32)), (.int xi)])) _
    exact k
  by_cases hlo : xi < (-128 : Int32)
  · have A39 : ∀ t, Steps p.tables e below (s₁.setTop (mkF m 23 #[.val (.int xi)] [])) t → Steps p.tables e below (s₁.setTop (entryFrame m #[(.int xi)] 1)) t := by
      intro t k
      refine A38 _ ?_
      refine XS.icmpYes X0.here hx rfl (pc0 := 3) (pc' := 23) rfl (hb hby dv_3) rfl (tlt hlo).1 (by decide) (by decide) ?_
      show Steps p.tables e below (s₁.setTop (mkF m 23 #[.val (.int xi)] [])) _
      exact k
    obtain ⟨T40, h40, X40, e40, E40, B40, D40, -, st40⟩ := newO X0 hx hZ hown (hw _ (List.mem_of_getElem? (i := 35) rfl)) (hw _ (List.mem_of_getElem? (i := 36) rfl)) (hw _ (List.mem_of_getElem? (i := 27) rfl)) e0 (g := (mkF m 23 #[.val (.int xi)] [])) rfl (hb hby dv_23) (by decide) (by decide)
    obtain ⟨b40, g40⟩ : ∃ z, z = h0.size := ⟨_, rfl⟩
    rw [← g40] at B40 D40 st40
    have ge41 := Nat.le_trans Z0 (Nat.le_of_eq g40.symm)
    have Zs42 := Nat.le_trans Z0 E40.1
    have Fl43 : Fld Z h40 b40 "java/lang/Integer" "value" "I" (.int (0 : Int32)) := D40 (Or.inr (hw _ (List.mem_of_getElem? (i := 49) rfl))) (ty := .int) (by decide)
    have K0 : Keep h0 h40 [] := (Keep.refl h0 []).ext E40
    have szb : h0.size ≤ b40 := Nat.le_of_eq g40.symm
    have A44 : ∀ t, Steps p.tables e below (T40.setTop (mkF m 28 #[.val (.int xi)] [(.int xi), (.ref b40), (.ref b40)])) t → Steps p.tables e below (s₁.setTop (entryFrame m #[(.int xi)] 1)) t := by
      intro t k
      refine A39 _ ?_
      refine st40 _ ?_
      show Steps p.tables e below (T40.setTop (mkF m 26 #[.val (.int xi)] [(.ref b40)])) _
      refine XS.dup X40.here hx rfl (hb hby dv_26) rfl rfl ?_
      show Steps p.tables e below (T40.setTop (mkF m 27 #[.val (.int xi)] [(.ref b40), (.ref b40)])) _
      refine XS.iloadN X40.here hx rfl (hb hby dv_27) rfl ?_
      show Steps p.tables e below (T40.setTop (mkF m 28 #[.val (.int xi)] [(.int xi), (.ref b40), (.ref b40)])) _
      exact k
    obtain ⟨_, _, ⟨T45, L45, k45, n45⟩, -, X45, ⟨Lc45, hQ45, l45, y45, z45⟩, st45⟩ := X40.specialBack hx (y := (⟨"java/lang/Integer", "<init>", "(I)V"⟩ : MethodName)) rfl hown (mvT hZ (hw _ (List.mem_of_getElem? (i := 37) rfl))) (mvT hZ (hw _ (List.mem_of_getElem? (i := 38) rfl))) (mvT hZ (hw _ (List.mem_of_getElem? (i := 40) rfl))) (by decide) (backOf (W := 1) (own_int l Z a0 hw [] b40 xi h40 n0 Zs42 B40 ge41 Fl43) hZ (hw _ (List.mem_of_getElem? (i := 40) rfl)) (hw _ (List.mem_of_getElem? (i := 27) rfl)) (by decide) (by decide)) (g := (mkF m 28 #[.val (.int xi)] [(.int xi), (.ref b40), (.ref b40)])) rfl (by rw [hml]; rfl) (Steps.refl _) (a := b40) (argsL := [(.int xi)]) (rest := [(.ref b40)]) (lenOf own_pd1 rfl) rfl (by show 2 * 0 + _ ≤ _; exact Nat.le_of_eq rfl) (hb hby dv_28) (fun _ _ => ⟨rfl, e40, (by decide : 1 + 0 ≤ _), (by decide : 1 + 0 ≤ _)⟩)
    dsimp only [Pt.U, Pt.locs, Pt.cells, Pt.slots] at X45 l45 y45 z45 st45 hQ45
    subst l45 y45 z45
    obtain ⟨rfl, Nq45, K45, E45, F45⟩ := hQ45
    have Nf46 := Fr.app N0 Nq45
    have K1 : Keep h0 T45.heap [] := K0.trans K45 (allS (Or.inr szb) all0)
    have A47 : ∀ t, Steps p.tables e below (T45.setTop (mkF m 31 #[.val (.int xi)] [(.ref b40)])) t → Steps p.tables e below (s₁.setTop (entryFrame m #[(.int xi)] 1)) t := by
      intro t k
      refine A44 _ ?_
      refine st45.trans ?_
      show Steps p.tables e below (T45.setTop (mkF m 31 #[.val (.int xi)] [(.ref b40)])) _
      exact k
    obtain ⟨fs, hr, hrun, hended, hW, hsame⟩ := X45.leave (v := some (.ref b40)) (fun h => by rw [Bd.returns] at h; cases h)
    refine ⟨_, _, A47 _ ?_, hrun, hended, _, _, rfl, ?_, ⟨_, rfl⟩, hW, hsame.mono (by decide) (by decide)⟩
    · exact retOut X45 hx Bd.returns rfl (Or.inr (Or.inr (Or.inr (Or.inr ⟨rfl, rfl, rfl⟩)))) (hb hby dv_31) hr
    · show own_vo_Q Z xi h0 n0 _ T45.heap _
      exact ⟨_, rfl, Nf46, own_ext K1, E45⟩
  · have A48 : ∀ t, Steps p.tables e below (s₁.setTop (mkF m 7 #[.val (.int xi)] [(.int xi)])) t → Steps p.tables e below (s₁.setTop (entryFrame m #[(.int xi)] 1)) t := by
      intro t k
      refine A38 _ ?_
      refine XS.icmpNo X0.here hx rfl (hb hby dv_3) rfl (flt hlo).1 ?_
      show Steps p.tables e below (s₁.setTop (mkF m 6 #[.val (.int xi)] [])) _
      refine XS.iloadN X0.here hx rfl (hb hby dv_6) rfl ?_
      show Steps p.tables e below (s₁.setTop (mkF m 7 #[.val (.int xi)] [(.int xi)])) _
      exact k
    obtain ⟨T49, X49, e49, st49⟩ := getS2 X0 hx hZ hown (host := "") (Or.inl (hw _ (List.mem_of_getElem? (i := 29) rfl))) Via.refl e0 (SH.ext O0.2) (g := (mkF m 7 #[.val (.int xi)] [(.int xi)])) rfl (hb hby dv_7)
    have A50 : ∀ t, Steps p.tables e below (T49.setTop (mkF m 10 #[.val (.int xi)] [(.int (127 : Int32)), (.int xi)])) t → Steps p.tables e below (s₁.setTop (entryFrame m #[(.int xi)] 1)) t := by
      intro t k
      refine A48 _ ?_
      refine st49 _ ?_
      show Steps p.tables e below (T49.setTop (mkF m 10 #[.val (.int xi)] [(.int (127 : Int32)), (.int xi)])) _
      exact k
    by_cases hhi : (127 : Int32) < xi
    · have A51 : ∀ t, Steps p.tables e below (T49.setTop (mkF m 23 #[.val (.int xi)] [])) t → Steps p.tables e below (s₁.setTop (entryFrame m #[(.int xi)] 1)) t := by
        intro t k
        refine A50 _ ?_
        refine XS.icmpYes X49.here hx rfl (pc0 := 10) (pc' := 23) rfl (hb hby dv_10) rfl (tlt hhi).2.2.1 (by decide) (by decide) ?_
        show Steps p.tables e below (T49.setTop (mkF m 23 #[.val (.int xi)] [])) _
        exact k
      obtain ⟨T52, h52, X52, e52, E52, B52, D52, -, st52⟩ := newO X49 hx hZ hown (hw _ (List.mem_of_getElem? (i := 35) rfl)) (hw _ (List.mem_of_getElem? (i := 36) rfl)) (hw _ (List.mem_of_getElem? (i := 27) rfl)) e49 (g := (mkF m 23 #[.val (.int xi)] [])) rfl (hb hby dv_23) (by decide) (by decide)
      obtain ⟨b52, g52⟩ : ∃ z, z = h0.size := ⟨_, rfl⟩
      rw [← g52] at B52 D52 st52
      have ge53 := Nat.le_trans Z0 (Nat.le_of_eq g52.symm)
      have Zs54 := Nat.le_trans Z0 E52.1
      have Fl55 : Fld Z h52 b52 "java/lang/Integer" "value" "I" (.int (0 : Int32)) := D52 (Or.inr (hw _ (List.mem_of_getElem? (i := 49) rfl))) (ty := .int) (by decide)
      have K0 : Keep h0 h52 [] := (Keep.refl h0 []).ext E52
      have szb : h0.size ≤ b52 := Nat.le_of_eq g52.symm
      have A56 : ∀ t, Steps p.tables e below (T52.setTop (mkF m 28 #[.val (.int xi)] [(.int xi), (.ref b52), (.ref b52)])) t → Steps p.tables e below (s₁.setTop (entryFrame m #[(.int xi)] 1)) t := by
        intro t k
        refine A51 _ ?_
        refine st52 _ ?_
        show Steps p.tables e below (T52.setTop (mkF m 26 #[.val (.int xi)] [(.ref b52)])) _
        refine XS.dup X52.here hx rfl (hb hby dv_26) rfl rfl ?_
        show Steps p.tables e below (T52.setTop (mkF m 27 #[.val (.int xi)] [(.ref b52), (.ref b52)])) _
        refine XS.iloadN X52.here hx rfl (hb hby dv_27) rfl ?_
        show Steps p.tables e below (T52.setTop (mkF m 28 #[.val (.int xi)] [(.int xi), (.ref b52), (.ref b52)])) _
        exact k
      obtain ⟨_, _, ⟨T57, L57, k57, n57⟩, -, X57, ⟨Lc57, hQ57, l57, y57, z57⟩, st57⟩ := X52.specialBack hx (y := (⟨"java/lang/Integer", "<init>", "(I)V"⟩ : MethodName)) rfl hown (mvT hZ (hw _ (List.mem_of_getElem? (i := 37) rfl))) (mvT hZ (hw _ (List.mem_of_getElem? (i := 38) rfl))) (mvT hZ (hw _ (List.mem_of_getElem? (i := 40) rfl))) (by decide) (backOf (W := 1) (own_int l Z a0 hw [] b52 xi h52 n0 Zs54 B52 ge53 Fl55) hZ (hw _ (List.mem_of_getElem? (i := 40) rfl)) (hw _ (List.mem_of_getElem? (i := 27) rfl)) (by decide) (by decide)) (g := (mkF m 28 #[.val (.int xi)] [(.int xi), (.ref b52), (.ref b52)])) rfl (by rw [hml]; rfl) (Steps.refl _) (a := b52) (argsL := [(.int xi)]) (rest := [(.ref b52)]) (lenOf own_pd1 rfl) rfl (by show 2 * 0 + _ ≤ _; exact Nat.le_of_eq rfl) (hb hby dv_28) (fun _ _ => ⟨rfl, e52, (by decide : 1 + 0 ≤ _), (by decide : 1 + 0 ≤ _)⟩)
      dsimp only [Pt.U, Pt.locs, Pt.cells, Pt.slots] at X57 l57 y57 z57 st57 hQ57
      subst l57 y57 z57
      obtain ⟨rfl, Nq57, K57, E57, F57⟩ := hQ57
      have Nf58 := Fr.app N0 Nq57
      have K1 : Keep h0 T57.heap [] := K0.trans K57 (allS (Or.inr szb) all0)
      have A59 : ∀ t, Steps p.tables e below (T57.setTop (mkF m 31 #[.val (.int xi)] [(.ref b52)])) t → Steps p.tables e below (s₁.setTop (entryFrame m #[(.int xi)] 1)) t := by
        intro t k
        refine A56 _ ?_
        refine st57.trans ?_
        show Steps p.tables e below (T57.setTop (mkF m 31 #[.val (.int xi)] [(.ref b52)])) _
        exact k
      obtain ⟨fs, hr, hrun, hended, hW, hsame⟩ := X57.leave (v := some (.ref b52)) (fun h => by rw [Bd.returns] at h; cases h)
      refine ⟨_, _, A59 _ ?_, hrun, hended, _, _, rfl, ?_, ⟨_, rfl⟩, hW, hsame.mono (by decide) (by decide)⟩
      · exact retOut X57 hx Bd.returns rfl (Or.inr (Or.inr (Or.inr (Or.inr ⟨rfl, rfl, rfl⟩)))) (hb hby dv_31) hr
      · show own_vo_Q Z xi h0 n0 _ T57.heap _
        exact ⟨_, rfl, Nf58, own_ext K1, E57⟩
    · have A60 : ∀ t, Steps p.tables e below (T49.setTop (mkF m 13 #[.val (.int xi)] [])) t → Steps p.tables e below (s₁.setTop (entryFrame m #[(.int xi)] 1)) t := by
        intro t k
        refine A50 _ ?_
        refine XS.icmpNo X49.here hx rfl (hb hby dv_10) rfl (flt hhi).2.2.1 ?_
        show Steps p.tables e below (T49.setTop (mkF m 13 #[.val (.int xi)] [])) _
        exact k
      obtain ⟨T61, X61, e61, st61⟩ := getS2 X49 hx hZ hown (host := "") (Or.inl (hw _ (List.mem_of_getElem? (i := 31) rfl))) Via.refl e49 (SC.ext O0.2) (g := (mkF m 13 #[.val (.int xi)] [])) rfl (hb hby dv_13)
      have A62 : ∀ t, Steps p.tables e below (T61.setTop (mkF m 21 #[.val (.int xi)] [(.int (xi + (128 : Int32))), (.ref vc)])) t → Steps p.tables e below (s₁.setTop (entryFrame m #[(.int xi)] 1)) t := by
        intro t k
        refine A60 _ ?_
        refine st61 _ ?_
        show Steps p.tables e below (T61.setTop (mkF m 16 #[.val (.int xi)] [(.ref vc)])) _
        refine XS.iloadN X61.here hx rfl (hb hby dv_16) rfl ?_
        show Steps p.tables e below (T61.setTop (mkF m 17 #[.val (.int xi)] [(.int xi), (.ref vc)])) _
        refine XS.sipush X61.here hx rfl (hb hby dv_17) ?_
        show Steps p.tables e below (T61.setTop (mkF m 20 #[.val (.int xi)] [(.int (128 : Int32)), (.int xi), (.ref vc)])) _
        refine XS.iadd X61.here hx rfl (hb hby dv_20) rfl ?_
        show Steps p.tables e below (T61.setTop (mkF m 21 #[.val (.int xi)] [(.int (xi + (128 : Int32))), (.ref vc)])) _
        exact k
      have hj : ¬ ((xi + (128 : Int32)) < 0 ∨ cc.slots.size ≤ ((xi + (128 : Int32))).toNatClampNeg) := by
        have q1 := c_iadd xi (128 : Int32)
        have q2 := rng32 (xi + (128 : Int32))
        rw [Int32.lt_iff_toInt_lt] at hlo hhi
        rw [show (128 : Int32).toInt = 128 from rfl] at q1
        rw [show (-128 : Int32).toInt = -128 from rfl] at hlo
        rw [show (127 : Int32).toInt = 127 from rfl] at hhi
        rw [sz, Int32.lt_iff_toInt_lt, show (0 : Int32).toInt = 0 from rfl]
        simp only [Int32.toNatClampNeg]
        omega
      obtain ⟨r, hat, ER⟩ := hel _ hj
      have A63 : ∀ t, Steps p.tables e below (T61.setTop (mkF m 22 #[.val (.int xi)] [(.ref r)])) t → Steps p.tables e below (s₁.setTop (entryFrame m #[(.int xi)] 1)) t := by
        intro t k
        refine A62 _ ?_
        refine X61.aaload hx (j := (xi + (128 : Int32))) (v := (.ref r)) (by rw [e61]; exact O0.2.2 _ _ AC.1) (State.isArrayOf_alike hZ.alike AC.2.1) rfl AC.2.2 hj hat (g := (mkF m 21 #[.val (.int xi)] [(.int (xi + (128 : Int32))), (.ref vc)])) rfl rfl (hb hby dv_21) _ ?_
        show Steps p.tables e below (T61.setTop (mkF m 22 #[.val (.int xi)] [(.ref r)])) _
        exact k
      obtain ⟨fs, hr, hrun, hended, hW, hsame⟩ := X61.leave (v := some (.ref r)) (fun h => by rw [Bd.returns] at h; cases h)
      refine ⟨_, _, A63 _ ?_, hrun, hended, _, _, rfl, ?_, ⟨_, rfl⟩, hW, hsame.mono (by decide) (by decide)⟩
      · exact retOut X61 hx Bd.returns rfl (Or.inr (Or.inr (Or.inr (Or.inr ⟨rfl, rfl, rfl⟩)))) (hb hby dv_22) hr
      · show own_vo_Q Z xi h0 n0 _ T61.heap _
        rw [e61]
        exact ⟨_, rfl, N0, ⟨Nat.le_refl _, fun _ _ q => q⟩, ER.ext O0.2⟩
def own_eqN_Q (Z : State) (xa : Addr) (h0 : Heap) (n0 : Nat) (v : Option Value) (h : Heap) (L : List Loc) : Prop := v = some (.int (0)) ∧ Fr n0 L ∧ h = h0
theorem own_eqN_ef (m : MethodId) (x0 : Addr) : entryFrame m #[(.ref x0), .null] 3 = mkF m 0 #[.val (.ref x0), .val .null, .unset] [] := by first | (simp [entryFrame, mkF, argsToLocals, Value.category]; done) | rfl
set_option maxRecDepth 65536 in
set_option maxHeartbeats 40000000 in
theorem own_eqN (l : Launch) (Z : State) (a0 : Array Value) (hw : ∀ d ∈ tables_1, d.before a0 Z = true) (ws : List Jvm.Cond) (xa : Addr) (h0 : Heap) (n0 : Nat) (Z0 : n0 ≤ h0.size)  :
    MetFree l (⟨"com/example/ennead/ennead/model/Hex", "equals", "(Ljava/lang/Object;)Z"⟩ : MethodName) (head1 (Jvm.Cond.code (⟨"com/example/ennead/ennead/model/Hex", "equals", "(Ljava/lang/Object;)Z"⟩ : MethodName) prog_9_method_6_code 3 (some .boolean) :: ws) ({ frames := 0, cells := 0, slots := 0, locals := 0 } : Room)) (fun a U => a = #[(.ref xa), .null] ∧ Z.Warmed39 U.vm ∧ U.heap = h0) (fun _ _ _ _ _ => True) (fun _ U o U' => ∃ v L, o = .returned v ∧ own_eqN_Q Z xa h0 n0 v U'.heap L ∧ FrameEnd U o U' L ({ frames := 0, cells := 0, slots := 0, locals := 0 } : Room).cells ({ frames := 0, cells := 0, slots := 0, locals := 0 } : Room).slots) := by
  refine MetFree.of_bodySF (plainFor_of_name own_pn2) hisR ?_
  intro p e s m args below meth c s₁ Bd hml0 hP hK
  obtain ⟨rfl, hZ, hh⟩ := hP
  have hx := Bd.exec
  have hby := Bd.bytes
  have hml : c.maxLocals = 3 := hml0
  have hown : s.vm.findClass "com/example/ennead/ennead/model/Hex" = some m.cls := findClass_of_methodNamed Bd.named
  have hnm := (name_of_methodNamed Bd.named Bd.method).1
  have X0 : Stand p l e ({ frames := 0, cells := 0, slots := 0, locals := 0 } : Room) s m #[(.ref xa), .null] below meth c s₁ [] 0 0 := Stand.of_body Bd
  have e0 : s₁.heap = h0 := by rw [← hh, Bd.state]; rfl
  have N0 := Fr.nil n0
  have A0 : ∀ t, Steps p.tables e below (s₁.setTop (mkF m 0 #[.val (.ref xa), .val .null, .unset] [])) t → Steps p.tables e below (s₁.setTop (entryFrame m #[(.ref xa), .null] 3)) t := fun t k => castTop (own_eqN_ef m xa) k
  have A64 : ∀ t, Steps p.tables e below (s₁.setTop (mkF m 44 #[.val (.ref xa), .val .null, .unset] [(.int (0 : Int32))])) t → Steps p.tables e below (s₁.setTop (entryFrame m #[(.ref xa), .null] 3)) t := by
    intro t k
    refine A0 _ ?_
    refine XS.aloadN X0.here hx rfl (hb hby de_0) rfl rfl ?_
    show Steps p.tables e below (s₁.setTop (mkF m 1 #[.val (.ref xa), .val .null, .unset] [(.ref xa)])) _
    refine XS.aloadN X0.here hx rfl (hb hby de_1) rfl rfl ?_
    show Steps p.tables e below (s₁.setTop (mkF m 2 #[.val (.ref xa), .val .null, .unset] [.null, (.ref xa)])) _
    refine Jvm.RoadKit.acmp (g := (mkF m 2 #[.val (.ref xa), .val .null, .unset] [.null, (.ref xa)])) X0 hx rfl rfl rfl (pc0 := 2) (pc' := 5) (same := false) rfl (hb hby de_2) rfl (decide_eq_false (fun q => nomatch q)) (by decide) (by decide) ?_
    show Steps p.tables e below (s₁.setTop (mkF m 5 #[.val (.ref xa), .val .null, .unset] [])) _
    refine XS.aloadN X0.here hx rfl (hb hby de_5) rfl rfl ?_
    show Steps p.tables e below (s₁.setTop (mkF m 6 #[.val (.ref xa), .val .null, .unset] [.null])) _
    refine X0.instanceofNull hx (g := (mkF m 6 #[.val (.ref xa), .val .null, .unset] [.null])) rfl rfl (hb hby de_6) _ ?_
    show Steps p.tables e below (s₁.setTop (mkF m 9 #[.val (.ref xa), .val .null, .unset] [(.int (0 : Int32))])) _
    refine XS.ifYes X0.here hx rfl (pc0 := 9) (pc' := 43) rfl (hb hby de_9) rfl ((if0 _ _).trans (teq (by decide : ((0 : Int32) = (0 : Int32)))).1) (by decide) (by decide) ?_
    show Steps p.tables e below (s₁.setTop (mkF m 43 #[.val (.ref xa), .val .null, .unset] [])) _
    refine XS.iconst X0.here hx rfl (hb hby de_43) ?_
    show Steps p.tables e below (s₁.setTop (mkF m 44 #[.val (.ref xa), .val .null, .unset] [(.int (0 : Int32))])) _
    exact k
  obtain ⟨fs, hr, hrun, hended, hW, hsame⟩ := X0.leave (v := some (.int (0 : Int32))) (fun h => by rw [Bd.returns] at h; cases h)
  refine ⟨_, _, A64 _ ?_, hrun, hended, _, _, rfl, ?_, ⟨_, rfl⟩, hW, hsame.mono (by decide) (by decide)⟩
  · exact retN X0 hx (t := .boolean) Bd.returns (by simp) (hb hby de_44) hr
  · show own_eqN_Q Z xa h0 n0 _ s₁.heap _
    rw [e0]
    exact ⟨rfl, N0, rfl⟩
def own_eqS_Q (Z : State) (xa xb : Addr) (y0 y1 z0 z1 : Int32) (h0 : Heap) (n0 : Nat) (v : Option Value) (h : Heap) (L : List Loc) : Prop := v = some (.int (own_eqv xa xb y0 y1 z0 z1)) ∧ Fr n0 L ∧ h = h0
theorem own_eqS_ef (m : MethodId) (x0 : Addr) (x1 : Addr) : entryFrame m #[(.ref x0), (.ref x1)] 3 = mkF m 0 #[.val (.ref x0), .val (.ref x1), .unset] [] := by first | (simp [entryFrame, mkF, argsToLocals, Value.category]; done) | rfl
set_option maxRecDepth 65536 in
set_option maxHeartbeats 40000000 in
theorem own_eqS (l : Launch) (Z : State) (a0 : Array Value) (hw : ∀ d ∈ tables_1, d.before a0 Z = true) (ws : List Jvm.Cond) (xa xb : Addr) (y0 y1 z0 z1 : Int32) (h0 : Heap) (n0 : Nat) (Z0 : n0 ≤ h0.size) (EB : Exa Z h0 xb "com/example/ennead/ennead/model/Hex") (A0_ : Fld Z h0 xa "com/example/ennead/ennead/model/Hex" "column" "I" (.int y0)) (B0_ : Fld Z h0 xb "com/example/ennead/ennead/model/Hex" "column" "I" (.int z0)) (A1_ : Fld Z h0 xa "com/example/ennead/ennead/model/Hex" "row" "I" (.int y1)) (B1_ : Fld Z h0 xb "com/example/ennead/ennead/model/Hex" "row" "I" (.int z1)) :
    MetFree l (⟨"com/example/ennead/ennead/model/Hex", "equals", "(Ljava/lang/Object;)Z"⟩ : MethodName) (head1 (Jvm.Cond.code (⟨"com/example/ennead/ennead/model/Hex", "equals", "(Ljava/lang/Object;)Z"⟩ : MethodName) prog_9_method_6_code 3 (some .boolean) :: ws) ({ frames := 0, cells := 0, slots := 0, locals := 0 } : Room)) (fun a U => a = #[(.ref xa), (.ref xb)] ∧ Z.Warmed39 U.vm ∧ U.heap = h0) (fun _ _ _ _ _ => True) (fun _ U o U' => ∃ v L, o = .returned v ∧ own_eqS_Q Z xa xb y0 y1 z0 z1 h0 n0 v U'.heap L ∧ FrameEnd U o U' L ({ frames := 0, cells := 0, slots := 0, locals := 0 } : Room).cells ({ frames := 0, cells := 0, slots := 0, locals := 0 } : Room).slots) := by
  refine MetFree.of_bodySF (plainFor_of_name own_pn2) hisR ?_
  intro p e s m args below meth c s₁ Bd hml0 hP hK
  obtain ⟨rfl, hZ, hh⟩ := hP
  have hx := Bd.exec
  have hby := Bd.bytes
  have hml : c.maxLocals = 3 := hml0
  have hown : s.vm.findClass "com/example/ennead/ennead/model/Hex" = some m.cls := findClass_of_methodNamed Bd.named
  have hnm := (name_of_methodNamed Bd.named Bd.method).1
  have X0 : Stand p l e ({ frames := 0, cells := 0, slots := 0, locals := 0 } : Room) s m #[(.ref xa), (.ref xb)] below meth c s₁ [] 0 0 := Stand.of_body Bd
  have e0 : s₁.heap = h0 := by rw [← hh, Bd.state]; rfl
  have N0 := Fr.nil n0
  have A0 : ∀ t, Steps p.tables e below (s₁.setTop (mkF m 0 #[.val (.ref xa), .val (.ref xb), .unset] [])) t → Steps p.tables e below (s₁.setTop (entryFrame m #[(.ref xa), (.ref xb)] 3)) t := fun t k => castTop (own_eqS_ef m xa xb) k
  have A65 : ∀ t, Steps p.tables e below (s₁.setTop (mkF m 2 #[.val (.ref xa), .val (.ref xb), .unset] [(.ref xb), (.ref xa)])) t → Steps p.tables e below (s₁.setTop (entryFrame m #[(.ref xa), (.ref xb)] 3)) t := by
    intro t k
    refine A0 _ ?_
    refine XS.aloadN X0.here hx rfl (hb hby de_0) rfl rfl ?_
    show Steps p.tables e below (s₁.setTop (mkF m 1 #[.val (.ref xa), .val (.ref xb), .unset] [(.ref xa)])) _
    refine XS.aloadN X0.here hx rfl (hb hby de_1) rfl rfl ?_
    show Steps p.tables e below (s₁.setTop (mkF m 2 #[.val (.ref xa), .val (.ref xb), .unset] [(.ref xb), (.ref xa)])) _
    exact k
  by_cases hc66 : xa = xb
  · have A67 : ∀ t, Steps p.tables e below (s₁.setTop (mkF m 44 #[.val (.ref xa), .val (.ref xb), .unset] [(.int (1 : Int32))])) t → Steps p.tables e below (s₁.setTop (entryFrame m #[(.ref xa), (.ref xb)] 3)) t := by
      intro t k
      refine A65 _ ?_
      refine Jvm.RoadKit.acmp (g := (mkF m 2 #[.val (.ref xa), .val (.ref xb), .unset] [(.ref xb), (.ref xa)])) X0 hx rfl rfl rfl (pc0 := 2) (pc' := 39) (same := true) rfl (hb hby de_2) rfl (decide_eq_true (congrArg Value.ref hc66)) (by decide) (by decide) ?_
      show Steps p.tables e below (s₁.setTop (mkF m 39 #[.val (.ref xa), .val (.ref xb), .unset] [])) _
      refine XS.iconst X0.here hx rfl (hb hby de_39) ?_
      show Steps p.tables e below (s₁.setTop (mkF m 40 #[.val (.ref xa), .val (.ref xb), .unset] [(.int (1 : Int32))])) _
      refine XS.goto X0.here hx rfl (pc0 := 40) (pc' := 44) rfl (hb hby de_40) (by decide) (by decide) ?_
      show Steps p.tables e below (s₁.setTop (mkF m 44 #[.val (.ref xa), .val (.ref xb), .unset] [(.int (1 : Int32))])) _
      exact k
    obtain ⟨fs, hr, hrun, hended, hW, hsame⟩ := X0.leave (v := some (.int (1 : Int32))) (fun h => by rw [Bd.returns] at h; cases h)
    refine ⟨_, _, A67 _ ?_, hrun, hended, _, _, rfl, ?_, ⟨_, rfl⟩, hW, hsame.mono (by decide) (by decide)⟩
    · exact retN X0 hx (t := .boolean) Bd.returns (by simp) (hb hby de_44) hr
    · show own_eqS_Q Z xa xb y0 y1 z0 z1 h0 n0 _ s₁.heap _
      rw [e0]
      exact ⟨by simp [own_eqv, hc66], N0, rfl⟩
  · have A68 : ∀ t, Steps p.tables e below (s₁.setTop (mkF m 6 #[.val (.ref xa), .val (.ref xb), .unset] [(.ref xb)])) t → Steps p.tables e below (s₁.setTop (entryFrame m #[(.ref xa), (.ref xb)] 3)) t := by
      intro t k
      refine A65 _ ?_
      refine Jvm.RoadKit.acmp (g := (mkF m 2 #[.val (.ref xa), .val (.ref xb), .unset] [(.ref xb), (.ref xa)])) X0 hx rfl rfl rfl (pc0 := 2) (pc' := 5) (same := false) rfl (hb hby de_2) rfl (decide_eq_false fun q => hc66 (Value.ref.inj q)) (by decide) (by decide) ?_
      show Steps p.tables e below (s₁.setTop (mkF m 5 #[.val (.ref xa), .val (.ref xb), .unset] [])) _
      refine XS.aloadN X0.here hx rfl (hb hby de_5) rfl rfl ?_
      show Steps p.tables e below (s₁.setTop (mkF m 6 #[.val (.ref xa), .val (.ref xb), .unset] [(.ref xb)])) _
      exact k
    obtain ⟨T69, X69, e69, st69⟩ := instY X0 hx hZ hown (hw _ (List.mem_of_getElem? (i := 23) rfl)) e0 (Ins.self EB) (g := (mkF m 6 #[.val (.ref xa), .val (.ref xb), .unset] [(.ref xb)])) rfl rfl (hb hby de_6)
    have A70 : ∀ t, Steps p.tables e below (T69.setTop (mkF m 13 #[.val (.ref xa), .val (.ref xb), .unset] [(.ref xb)])) t → Steps p.tables e below (s₁.setTop (entryFrame m #[(.ref xa), (.ref xb)] 3)) t := by
      intro t k
      refine A68 _ ?_
      refine st69 _ ?_
      show Steps p.tables e below (T69.setTop (mkF m 9 #[.val (.ref xa), .val (.ref xb), .unset] [(.int (1 : Int32))])) _
      refine XS.ifNo X69.here hx rfl (hb hby de_9) rfl ((if0 _ _).trans (feq (by decide : ¬ ((1 : Int32) = (0 : Int32)))).1) ?_
      show Steps p.tables e below (T69.setTop (mkF m 12 #[.val (.ref xa), .val (.ref xb), .unset] [])) _
      refine XS.aloadN X69.here hx rfl (hb hby de_12) rfl rfl ?_
      show Steps p.tables e below (T69.setTop (mkF m 13 #[.val (.ref xa), .val (.ref xb), .unset] [(.ref xb)])) _
      exact k
    obtain ⟨T71, X71, e71, st71⟩ := castY X69 hx hZ hown (hw _ (List.mem_of_getElem? (i := 23) rfl)) e69 (Ins.self EB) (g := (mkF m 13 #[.val (.ref xa), .val (.ref xb), .unset] [(.ref xb)])) rfl rfl (hb hby de_13)
    have A72 : ∀ t, Steps p.tables e below (T71.setTop (mkF m 18 #[.val (.ref xa), .val (.ref xb), .val (.ref xb)] [(.ref xa)])) t → Steps p.tables e below (s₁.setTop (entryFrame m #[(.ref xa), (.ref xb)] 3)) t := by
      intro t k
      refine A70 _ ?_
      refine st71 _ ?_
      show Steps p.tables e below (T71.setTop (mkF m 16 #[.val (.ref xa), .val (.ref xb), .unset] [(.ref xb)])) _
      refine XS.astoreN X71.here hx rfl (hb hby de_16) rfl rfl (l' := #[.val (.ref xa), .val (.ref xb), .val (.ref xb)]) rfl ?_
      show Steps p.tables e below (T71.setTop (mkF m 17 #[.val (.ref xa), .val (.ref xb), .val (.ref xb)] [])) _
      refine XS.aloadN X71.here hx rfl (hb hby de_17) rfl rfl ?_
      show Steps p.tables e below (T71.setTop (mkF m 18 #[.val (.ref xa), .val (.ref xb), .val (.ref xb)] [(.ref xa)])) _
      exact k
    obtain ⟨T73, X73, e73, st73⟩ := getF X71 hx hZ hown (host := "") (Or.inl (hw _ (List.mem_of_getElem? (i := 14) rfl))) Via.refl e71 A0_ (g := (mkF m 18 #[.val (.ref xa), .val (.ref xb), .val (.ref xb)] [(.ref xa)])) rfl rfl (hb hby de_18)
    have A74 : ∀ t, Steps p.tables e below (T73.setTop (mkF m 22 #[.val (.ref xa), .val (.ref xb), .val (.ref xb)] [(.ref xb), (.int y0)])) t → Steps p.tables e below (s₁.setTop (entryFrame m #[(.ref xa), (.ref xb)] 3)) t := by
      intro t k
      refine A72 _ ?_
      refine st73 _ ?_
      show Steps p.tables e below (T73.setTop (mkF m 21 #[.val (.ref xa), .val (.ref xb), .val (.ref xb)] [(.int y0)])) _
      refine XS.aloadN X73.here hx rfl (hb hby de_21) rfl rfl ?_
      show Steps p.tables e below (T73.setTop (mkF m 22 #[.val (.ref xa), .val (.ref xb), .val (.ref xb)] [(.ref xb), (.int y0)])) _
      exact k
    obtain ⟨T75, X75, e75, st75⟩ := getF X73 hx hZ hown (host := "") (Or.inl (hw _ (List.mem_of_getElem? (i := 14) rfl))) Via.refl e73 B0_ (g := (mkF m 22 #[.val (.ref xa), .val (.ref xb), .val (.ref xb)] [(.ref xb), (.int y0)])) rfl rfl (hb hby de_22)
    have A76 : ∀ t, Steps p.tables e below (T75.setTop (mkF m 25 #[.val (.ref xa), .val (.ref xb), .val (.ref xb)] [(.int z0), (.int y0)])) t → Steps p.tables e below (s₁.setTop (entryFrame m #[(.ref xa), (.ref xb)] 3)) t := by
      intro t k
      refine A74 _ ?_
      refine st75 _ ?_
      show Steps p.tables e below (T75.setTop (mkF m 25 #[.val (.ref xa), .val (.ref xb), .val (.ref xb)] [(.int z0), (.int y0)])) _
      exact k
    by_cases hc77 : y0 = z0
    · have A78 : ∀ t, Steps p.tables e below (T75.setTop (mkF m 29 #[.val (.ref xa), .val (.ref xb), .val (.ref xb)] [(.ref xa)])) t → Steps p.tables e below (s₁.setTop (entryFrame m #[(.ref xa), (.ref xb)] 3)) t := by
        intro t k
        refine A76 _ ?_
        refine XS.icmpNo X75.here hx rfl (hb hby de_25) rfl (teq hc77).2 ?_
        show Steps p.tables e below (T75.setTop (mkF m 28 #[.val (.ref xa), .val (.ref xb), .val (.ref xb)] [])) _
        refine XS.aloadN X75.here hx rfl (hb hby de_28) rfl rfl ?_
        show Steps p.tables e below (T75.setTop (mkF m 29 #[.val (.ref xa), .val (.ref xb), .val (.ref xb)] [(.ref xa)])) _
        exact k
      obtain ⟨T79, X79, e79, st79⟩ := getF X75 hx hZ hown (host := "") (Or.inl (hw _ (List.mem_of_getElem? (i := 16) rfl))) Via.refl e75 A1_ (g := (mkF m 29 #[.val (.ref xa), .val (.ref xb), .val (.ref xb)] [(.ref xa)])) rfl rfl (hb hby de_29)
      have A80 : ∀ t, Steps p.tables e below (T79.setTop (mkF m 33 #[.val (.ref xa), .val (.ref xb), .val (.ref xb)] [(.ref xb), (.int y1)])) t → Steps p.tables e below (s₁.setTop (entryFrame m #[(.ref xa), (.ref xb)] 3)) t := by
        intro t k
        refine A78 _ ?_
        refine st79 _ ?_
        show Steps p.tables e below (T79.setTop (mkF m 32 #[.val (.ref xa), .val (.ref xb), .val (.ref xb)] [(.int y1)])) _
        refine XS.aloadN X79.here hx rfl (hb hby de_32) rfl rfl ?_
        show Steps p.tables e below (T79.setTop (mkF m 33 #[.val (.ref xa), .val (.ref xb), .val (.ref xb)] [(.ref xb), (.int y1)])) _
        exact k
      obtain ⟨T81, X81, e81, st81⟩ := getF X79 hx hZ hown (host := "") (Or.inl (hw _ (List.mem_of_getElem? (i := 16) rfl))) Via.refl e79 B1_ (g := (mkF m 33 #[.val (.ref xa), .val (.ref xb), .val (.ref xb)] [(.ref xb), (.int y1)])) rfl rfl (hb hby de_33)
      have A82 : ∀ t, Steps p.tables e below (T81.setTop (mkF m 36 #[.val (.ref xa), .val (.ref xb), .val (.ref xb)] [(.int z1), (.int y1)])) t → Steps p.tables e below (s₁.setTop (entryFrame m #[(.ref xa), (.ref xb)] 3)) t := by
        intro t k
        refine A80 _ ?_
        refine st81 _ ?_
        show Steps p.tables e below (T81.setTop (mkF m 36 #[.val (.ref xa), .val (.ref xb), .val (.ref xb)] [(.int z1), (.int y1)])) _
        exact k
      by_cases hc83 : y1 = z1
      · have A84 : ∀ t, Steps p.tables e below (T81.setTop (mkF m 44 #[.val (.ref xa), .val (.ref xb), .val (.ref xb)] [(.int (1 : Int32))])) t → Steps p.tables e below (s₁.setTop (entryFrame m #[(.ref xa), (.ref xb)] 3)) t := by
          intro t k
          refine A82 _ ?_
          refine XS.icmpNo X81.here hx rfl (hb hby de_36) rfl (teq hc83).2 ?_
          show Steps p.tables e below (T81.setTop (mkF m 39 #[.val (.ref xa), .val (.ref xb), .val (.ref xb)] [])) _
          refine XS.iconst X81.here hx rfl (hb hby de_39) ?_
          show Steps p.tables e below (T81.setTop (mkF m 40 #[.val (.ref xa), .val (.ref xb), .val (.ref xb)] [(.int (1 : Int32))])) _
          refine XS.goto X81.here hx rfl (pc0 := 40) (pc' := 44) rfl (hb hby de_40) (by decide) (by decide) ?_
          show Steps p.tables e below (T81.setTop (mkF m 44 #[.val (.ref xa), .val (.ref xb), .val (.ref xb)] [(.int (1 : Int32))])) _
          exact k
        obtain ⟨fs, hr, hrun, hended, hW, hsame⟩ := X81.leave (v := some (.int (1 : Int32))) (fun h => by rw [Bd.returns] at h; cases h)
        refine ⟨_, _, A84 _ ?_, hrun, hended, _, _, rfl, ?_, ⟨_, rfl⟩, hW, hsame.mono (by decide) (by decide)⟩
        · exact retN X81 hx (t := .boolean) Bd.returns (by simp) (hb hby de_44) hr
        · show own_eqS_Q Z xa xb y0 y1 z0 z1 h0 n0 _ T81.heap _
          rw [e81]
          exact ⟨by simp [own_eqv, hc66, hc77, hc83], N0, rfl⟩
      · have A85 : ∀ t, Steps p.tables e below (T81.setTop (mkF m 44 #[.val (.ref xa), .val (.ref xb), .val (.ref xb)] [(.int (0 : Int32))])) t → Steps p.tables e below (s₁.setTop (entryFrame m #[(.ref xa), (.ref xb)] 3)) t := by
          intro t k
          refine A82 _ ?_
          refine XS.icmpYes X81.here hx rfl (pc0 := 36) (pc' := 43) rfl (hb hby de_36) rfl (feq hc83).2 (by decide) (by decide) ?_
          show Steps p.tables e below (T81.setTop (mkF m 43 #[.val (.ref xa), .val (.ref xb), .val (.ref xb)] [])) _
          refine XS.iconst X81.here hx rfl (hb hby de_43) ?_
          show Steps p.tables e below (T81.setTop (mkF m 44 #[.val (.ref xa), .val (.ref xb), .val (.ref xb)] [(.int (0 : Int32))])) _
          exact k
        obtain ⟨fs, hr, hrun, hended, hW, hsame⟩ := X81.leave (v := some (.int (0 : Int32))) (fun h => by rw [Bd.returns] at h; cases h)
        refine ⟨_, _, A85 _ ?_, hrun, hended, _, _, rfl, ?_, ⟨_, rfl⟩, hW, hsame.mono (by decide) (by decide)⟩
        · exact retN X81 hx (t := .boolean) Bd.returns (by simp) (hb hby de_44) hr
        · show own_eqS_Q Z xa xb y0 y1 z0 z1 h0 n0 _ T81.heap _
          rw [e81]
          exact ⟨by simp [own_eqv, hc66, hc77, hc83], N0, rfl⟩
    · have A86 : ∀ t, Steps p.tables e below (T75.setTop (mkF m 44 #[.val (.ref xa), .val (.ref xb), .val (.ref xb)] [(.int (0 : Int32))])) t → Steps p.tables e below (s₁.setTop (entryFrame m #[(.ref xa), (.ref xb)] 3)) t := by
        intro t k
        refine A76 _ ?_
        refine XS.icmpYes X75.here hx rfl (pc0 := 25) (pc' := 43) rfl (hb hby de_25) rfl (feq hc77).2 (by decide) (by decide) ?_
        show Steps p.tables e below (T75.setTop (mkF m 43 #[.val (.ref xa), .val (.ref xb), .val (.ref xb)] [])) _
        refine XS.iconst X75.here hx rfl (hb hby de_43) ?_
        show Steps p.tables e below (T75.setTop (mkF m 44 #[.val (.ref xa), .val (.ref xb), .val (.ref xb)] [(.int (0 : Int32))])) _
        exact k
      obtain ⟨fs, hr, hrun, hended, hW, hsame⟩ := X75.leave (v := some (.int (0 : Int32))) (fun h => by rw [Bd.returns] at h; cases h)
      refine ⟨_, _, A86 _ ?_, hrun, hended, _, _, rfl, ?_, ⟨_, rfl⟩, hW, hsame.mono (by decide) (by decide)⟩
      · exact retN X75 hx (t := .boolean) Bd.returns (by simp) (hb hby de_44) hr
      · show own_eqS_Q Z xa xb y0 y1 z0 z1 h0 n0 _ T75.heap _
        rw [e75]
        exact ⟨by simp [own_eqv, hc66, hc77], N0, rfl⟩
def own_eqI_Q (Z : State) (xa xb : Addr) (h0 : Heap) (n0 : Nat) (v : Option Value) (h : Heap) (L : List Loc) : Prop := v = some (.int (0)) ∧ Fr n0 L ∧ h = h0
theorem own_eqI_ef (m : MethodId) (x0 : Addr) (x1 : Addr) : entryFrame m #[(.ref x0), (.ref x1)] 3 = mkF m 0 #[.val (.ref x0), .val (.ref x1), .unset] [] := by first | (simp [entryFrame, mkF, argsToLocals, Value.category]; done) | rfl
set_option maxRecDepth 65536 in
set_option maxHeartbeats 40000000 in
theorem own_eqI (l : Launch) (Z : State) (a0 : Array Value) (hw : ∀ d ∈ tables_1, d.before a0 Z = true) (ws : List Jvm.Cond) (xa xb : Addr) (h0 : Heap) (n0 : Nat) (Z0 : n0 ≤ h0.size) (EA : Exa Z h0 xa "com/example/ennead/ennead/model/Hex") (EB : Exa Z h0 xb "java/lang/Integer") :
    MetFree l (⟨"com/example/ennead/ennead/model/Hex", "equals", "(Ljava/lang/Object;)Z"⟩ : MethodName) (head1 (Jvm.Cond.code (⟨"com/example/ennead/ennead/model/Hex", "equals", "(Ljava/lang/Object;)Z"⟩ : MethodName) prog_9_method_6_code 3 (some .boolean) :: ws) ({ frames := 0, cells := 0, slots := 0, locals := 0 } : Room)) (fun a U => a = #[(.ref xa), (.ref xb)] ∧ Z.Warmed39 U.vm ∧ U.heap = h0) (fun _ _ _ _ _ => True) (fun _ U o U' => ∃ v L, o = .returned v ∧ own_eqI_Q Z xa xb h0 n0 v U'.heap L ∧ FrameEnd U o U' L ({ frames := 0, cells := 0, slots := 0, locals := 0 } : Room).cells ({ frames := 0, cells := 0, slots := 0, locals := 0 } : Room).slots) := by
  refine MetFree.of_bodySF (plainFor_of_name own_pn2) hisR ?_
  intro p e s m args below meth c s₁ Bd hml0 hP hK
  obtain ⟨rfl, hZ, hh⟩ := hP
  have hx := Bd.exec
  have hby := Bd.bytes
  have hml : c.maxLocals = 3 := hml0
  have hown : s.vm.findClass "com/example/ennead/ennead/model/Hex" = some m.cls := findClass_of_methodNamed Bd.named
  have hnm := (name_of_methodNamed Bd.named Bd.method).1
  have X0 : Stand p l e ({ frames := 0, cells := 0, slots := 0, locals := 0 } : Room) s m #[(.ref xa), (.ref xb)] below meth c s₁ [] 0 0 := Stand.of_body Bd
  have e0 : s₁.heap = h0 := by rw [← hh, Bd.state]; rfl
  have N0 := Fr.nil n0
  have A0 : ∀ t, Steps p.tables e below (s₁.setTop (mkF m 0 #[.val (.ref xa), .val (.ref xb), .unset] [])) t → Steps p.tables e below (s₁.setTop (entryFrame m #[(.ref xa), (.ref xb)] 3)) t := fun t k => castTop (own_eqI_ef m xa xb) k
  have A87 : ∀ t, Steps p.tables e below (s₁.setTop (mkF m 6 #[.val (.ref xa), .val (.ref xb), .unset] [(.ref xb)])) t → Steps p.tables e below (s₁.setTop (entryFrame m #[(.ref xa), (.ref xb)] 3)) t := by
    intro t k
    refine A0 _ ?_
    refine XS.aloadN X0.here hx rfl (hb hby de_0) rfl rfl ?_
    show Steps p.tables e below (s₁.setTop (mkF m 1 #[.val (.ref xa), .val (.ref xb), .unset] [(.ref xa)])) _
    refine XS.aloadN X0.here hx rfl (hb hby de_1) rfl rfl ?_
    show Steps p.tables e below (s₁.setTop (mkF m 2 #[.val (.ref xa), .val (.ref xb), .unset] [(.ref xb), (.ref xa)])) _
    refine Jvm.RoadKit.acmp (g := (mkF m 2 #[.val (.ref xa), .val (.ref xb), .unset] [(.ref xb), (.ref xa)])) X0 hx rfl rfl rfl (pc0 := 2) (pc' := 5) (same := false) rfl (hb hby de_2) rfl (decide_eq_false fun q => (ne_exa EA EB (by decide)) (Value.ref.inj q)) (by decide) (by decide) ?_
    show Steps p.tables e below (s₁.setTop (mkF m 5 #[.val (.ref xa), .val (.ref xb), .unset] [])) _
    refine XS.aloadN X0.here hx rfl (hb hby de_5) rfl rfl ?_
    show Steps p.tables e below (s₁.setTop (mkF m 6 #[.val (.ref xa), .val (.ref xb), .unset] [(.ref xb)])) _
    exact k
  obtain ⟨T88, X88, e88, st88⟩ := instNo X0 hx hZ hown (hw _ (List.mem_of_getElem? (i := 23) rfl)) e0 EB (own_no (hw _ (List.mem_of_getElem? (i := 32) rfl)) (hw _ (List.mem_of_getElem? (i := 1) rfl)) (NS.step (hw _ (List.mem_of_getElem? (i := 32) rfl)) (NS.step (hw _ (List.mem_of_getElem? (i := 33) rfl)) (own_root (hw _ (List.mem_of_getElem? (i := 34) rfl)) (hw _ (List.mem_of_getElem? (i := 1) rfl)) (by decide)) (by decide)) (by decide)) (by decide)) (g := (mkF m 6 #[.val (.ref xa), .val (.ref xb), .unset] [(.ref xb)])) rfl rfl (hb hby de_6)
  have A89 : ∀ t, Steps p.tables e below (T88.setTop (mkF m 44 #[.val (.ref xa), .val (.ref xb), .unset] [(.int (0 : Int32))])) t → Steps p.tables e below (s₁.setTop (entryFrame m #[(.ref xa), (.ref xb)] 3)) t := by
    intro t k
    refine A87 _ ?_
    refine st88 _ ?_
    show Steps p.tables e below (T88.setTop (mkF m 9 #[.val (.ref xa), .val (.ref xb), .unset] [(.int (0 : Int32))])) _
    refine XS.ifYes X88.here hx rfl (pc0 := 9) (pc' := 43) rfl (hb hby de_9) rfl ((if0 _ _).trans (teq (by decide : ((0 : Int32) = (0 : Int32)))).1) (by decide) (by decide) ?_
    show Steps p.tables e below (T88.setTop (mkF m 43 #[.val (.ref xa), .val (.ref xb), .unset] [])) _
    refine XS.iconst X88.here hx rfl (hb hby de_43) ?_
    show Steps p.tables e below (T88.setTop (mkF m 44 #[.val (.ref xa), .val (.ref xb), .unset] [(.int (0 : Int32))])) _
    exact k
  obtain ⟨fs, hr, hrun, hended, hW, hsame⟩ := X88.leave (v := some (.int (0 : Int32))) (fun h => by rw [Bd.returns] at h; cases h)
  refine ⟨_, _, A89 _ ?_, hrun, hended, _, _, rfl, ?_, ⟨_, rfl⟩, hW, hsame.mono (by decide) (by decide)⟩
  · exact retN X88 hx (t := .boolean) Bd.returns (by simp) (hb hby de_44) hr
  · show own_eqI_Q Z xa xb h0 n0 _ T88.heap _
    rw [e88]
    exact ⟨rfl, N0, rfl⟩
def own_Q0 (Z : State) (x1 x2 x3 x4 x5 : Int32) (h0 : Heap) (n0 : Nat) (v : Option Value) (h : Heap) (L : List Loc) : Prop := v = some (.int 1) ∧ Fr n0 L
theorem own_law_ef (m : MethodId) (x0 : Int32) (x1 : Int32) (x2 : Int32) (x3 : Int32) (x4 : Int32) : entryFrame m #[(.int x0), (.int x1), (.int x2), (.int x3), (.int x4)] maxLocals = mkF m 0 #[.val (.int x0), .val (.int x1), .val (.int x2), .val (.int x3), .val (.int x4), .unset, .unset, .unset, .unset, .unset, .unset] [] := by first | (simp [entryFrame, mkF, argsToLocals, Value.category, maxLocals]; done) | rfl
set_option maxRecDepth 65536 in
set_option maxHeartbeats 40000000 in
theorem own_law (l : Launch) (Z : State) (a0 : Array Value) (hw : ∀ d ∈ tables_1, d.before a0 Z = true) (ws : List Jvm.Cond) (x1 x2 x3 x4 x5 : Int32) (vc : Addr) (cc : Cell) (h0 : Heap) (n0 : Nat) (Z0 : n0 ≤ h0.size) (SH : Sta Z Z.heap "java/lang/Integer$IntegerCache" "high" "I" (.int (127 : Int32))) (SC : Sta Z Z.heap "java/lang/Integer$IntegerCache" "cache" "[Ljava/lang/Integer;" (.ref vc)) (AC : Arr Z Z.heap vc cc (.object "java/lang/Integer")) (sz : cc.slots.size = 256) (hel : ∀ j : Int32, ¬ (j < 0 ∨ cc.slots.size ≤ j.toNatClampNeg) → ∃ r : Addr, cc.slots[j.toNatClampNeg]? = some (.ref r) ∧ Exa Z Z.heap r "java/lang/Integer") (O0 : Old Z n0 h0) :
    MetFree l x (head1 (Jvm.Cond.code x code maxLocals ret :: ws) room_1) (fun a U => a = #[(.int x1), (.int x2), (.int x3), (.int x4), (.int x5)] ∧ Z.Warmed39 U.vm ∧ U.heap = h0) (fun _ _ _ _ _ => True) (fun _ U o U' => ∃ v L, o = .returned v ∧ own_Q0 Z x1 x2 x3 x4 x5 h0 n0 v U'.heap L ∧ FrameEnd U o U' L room_1.cells room_1.slots) := by
  refine MetFree.of_bodySF (plainFor_of_name own_pn4) hisR ?_
  intro p e s m args below meth c s₁ Bd hml0 hP hK
  obtain ⟨rfl, hZ, hh⟩ := hP
  have hx := Bd.exec
  have hby := Bd.bytes
  have hml : c.maxLocals = 11 := hml0
  have hown : s.vm.findClass "com/example/ennead/ennead/model/HexEqualsPinLaw" = some m.cls := findClass_of_methodNamed Bd.named
  have hnm := (name_of_methodNamed Bd.named Bd.method).1
  have X0 : Stand p l e room_1 s m #[(.int x1), (.int x2), (.int x3), (.int x4), (.int x5)] below meth c s₁ [] 0 0 := Stand.of_body Bd
  have e0 : s₁.heap = h0 := by rw [← hh, Bd.state]; rfl
  have N0 := Fr.nil n0
  have A0 : ∀ t, Steps p.tables e below (s₁.setTop (mkF m 0 #[.val (.int x1), .val (.int x2), .val (.int x3), .val (.int x4), .val (.int x5), .unset, .unset, .unset, .unset, .unset, .unset] [])) t → Steps p.tables e below (s₁.setTop (entryFrame m #[(.int x1), (.int x2), (.int x3), (.int x4), (.int x5)] maxLocals)) t := fun t k => castTop (own_law_ef m x1 x2 x3 x4 x5) k
  obtain ⟨T90, h90, X90, e90, E90, B90, D90, -, st90⟩ := newO X0 hx hZ hown (hw _ (List.mem_of_getElem? (i := 0) rfl)) (hw _ (List.mem_of_getElem? (i := 1) rfl)) (hw _ (List.mem_of_getElem? (i := 2) rfl)) e0 (g := (mkF m 0 #[.val (.int x1), .val (.int x2), .val (.int x3), .val (.int x4), .val (.int x5), .unset, .unset, .unset, .unset, .unset, .unset] [])) rfl (hb hby at_0) (by decide) (by decide)
  obtain ⟨b90, g90⟩ : ∃ z, z = h0.size := ⟨_, rfl⟩
  rw [← g90] at B90 D90 st90
  have ge91 := Nat.le_trans Z0 (Nat.le_of_eq g90.symm)
  have Zs92 := Nat.le_trans Z0 E90.1
  have Fl93 : Fld Z h90 b90 "com/example/ennead/ennead/model/Hex" "column" "I" (.int (0 : Int32)) := D90 (Or.inr (hw _ (List.mem_of_getElem? (i := 15) rfl))) (ty := .int) (by decide)
  have Fl94 : Fld Z h90 b90 "com/example/ennead/ennead/model/Hex" "row" "I" (.int (0 : Int32)) := D90 (Or.inr (hw _ (List.mem_of_getElem? (i := 17) rfl))) (ty := .int) (by decide)
  have Ol95 := O0.ext E90
  have A96 : ∀ t, Steps p.tables e below (T90.setTop (mkF m 6 #[.val (.int x1), .val (.int x2), .val (.int x3), .val (.int x4), .val (.int x5), .unset, .unset, .unset, .unset, .unset, .unset] [(.int x2), (.int x1), (.ref b90), (.ref b90)])) t → Steps p.tables e below (s₁.setTop (entryFrame m #[(.int x1), (.int x2), (.int x3), (.int x4), (.int x5)] maxLocals)) t := by
    intro t k
    refine A0 _ ?_
    refine st90 _ ?_
    show Steps p.tables e below (T90.setTop (mkF m 3 #[.val (.int x1), .val (.int x2), .val (.int x3), .val (.int x4), .val (.int x5), .unset, .unset, .unset, .unset, .unset, .unset] [(.ref b90)])) _
    refine XS.dup X90.here hx rfl (hb hby at_3) rfl rfl ?_
    show Steps p.tables e below (T90.setTop (mkF m 4 #[.val (.int x1), .val (.int x2), .val (.int x3), .val (.int x4), .val (.int x5), .unset, .unset, .unset, .unset, .unset, .unset] [(.ref b90), (.ref b90)])) _
    refine XS.iloadN X90.here hx rfl (hb hby at_4) rfl ?_
    show Steps p.tables e below (T90.setTop (mkF m 5 #[.val (.int x1), .val (.int x2), .val (.int x3), .val (.int x4), .val (.int x5), .unset, .unset, .unset, .unset, .unset, .unset] [(.int x1), (.ref b90), (.ref b90)])) _
    refine XS.iloadN X90.here hx rfl (hb hby at_5) rfl ?_
    show Steps p.tables e below (T90.setTop (mkF m 6 #[.val (.int x1), .val (.int x2), .val (.int x3), .val (.int x4), .val (.int x5), .unset, .unset, .unset, .unset, .unset, .unset] [(.int x2), (.int x1), (.ref b90), (.ref b90)])) _
    exact k
  obtain ⟨_, _, ⟨T97, L97, k97, n97⟩, -, X97, ⟨Lc97, hQ97, l97, y97, z97⟩, st97⟩ := X90.specialBack hx (y := (⟨"com/example/ennead/ennead/model/Hex", "<init>", "(II)V"⟩ : MethodName)) rfl hown (mvT hZ (hw _ (List.mem_of_getElem? (i := 3) rfl))) (mvT hZ (hw _ (List.mem_of_getElem? (i := 4) rfl))) (mvT hZ (hw _ (List.mem_of_getElem? (i := 5) rfl))) (by decide) (backOf (W := 1) (own_hex l Z a0 hw [] b90 x1 x2 h90 n0 Zs92 B90 ge91 Fl93 Fl94 ) hZ (hw _ (List.mem_of_getElem? (i := 5) rfl)) (hw _ (List.mem_of_getElem? (i := 2) rfl)) (by decide) (by decide)) (g := (mkF m 6 #[.val (.int x1), .val (.int x2), .val (.int x3), .val (.int x4), .val (.int x5), .unset, .unset, .unset, .unset, .unset, .unset] [(.int x2), (.int x1), (.ref b90), (.ref b90)])) rfl (by rw [hml]; rfl) (Steps.refl _) (a := b90) (argsL := [(.int x1), (.int x2)]) (rest := [(.ref b90)]) (lenOf own_pd2 rfl) rfl (by show 2 * 0 + _ ≤ _; exact Nat.le_of_eq rfl) (hb hby at_6) (fun _ _ => ⟨rfl, e90, (by decide : 1 + 0 ≤ _), (by decide : 2 + 0 ≤ _)⟩)
  dsimp only [Pt.U, Pt.locs, Pt.cells, Pt.slots] at X97 l97 y97 z97 st97 hQ97
  subst l97 y97 z97
  obtain ⟨rfl, Nq97, K97, Ec97, Fc0_97, Fc1_97⟩ := hQ97
  have Nf98 := Fr.app N0 Nq97
  have Zs99 := Nat.le_trans Zs92 K97.1
  have Ol100 := Ol95.keep K97 (allS ge91 all0)
  have A101 : ∀ t, Steps p.tables e below (T97.setTop (mkF m 20 #[.val (.int x1), .val (.int x2), .val (.int x3), .val (.int x4), .val (.int x5), .val (.ref b90), .val (.int (x5 &&& (7 : Int32))), .unset, .unset, .unset, .unset] [(.int (x5 &&& (7 : Int32)))])) t → Steps p.tables e below (s₁.setTop (entryFrame m #[(.int x1), (.int x2), (.int x3), (.int x4), (.int x5)] maxLocals)) t := by
    intro t k
    refine A96 _ ?_
    refine st97.trans ?_
    show Steps p.tables e below (T97.setTop (mkF m 9 #[.val (.int x1), .val (.int x2), .val (.int x3), .val (.int x4), .val (.int x5), .unset, .unset, .unset, .unset, .unset, .unset] [(.ref b90)])) _
    refine XS.astore X97.here hx rfl (hb hby at_9) rfl rfl (l' := #[.val (.int x1), .val (.int x2), .val (.int x3), .val (.int x4), .val (.int x5), .val (.ref b90), .unset, .unset, .unset, .unset, .unset]) rfl ?_
    show Steps p.tables e below (T97.setTop (mkF m 11 #[.val (.int x1), .val (.int x2), .val (.int x3), .val (.int x4), .val (.int x5), .val (.ref b90), .unset, .unset, .unset, .unset, .unset] [])) _
    refine XS.iload X97.here hx rfl (hb hby at_11) rfl ?_
    show Steps p.tables e below (T97.setTop (mkF m 13 #[.val (.int x1), .val (.int x2), .val (.int x3), .val (.int x4), .val (.int x5), .val (.ref b90), .unset, .unset, .unset, .unset, .unset] [(.int x5)])) _
    refine XS.bipush X97.here hx rfl (hb hby at_13) ?_
    show Steps p.tables e below (T97.setTop (mkF m 15 #[.val (.int x1), .val (.int x2), .val (.int x3), .val (.int x4), .val (.int x5), .val (.ref b90), .unset, .unset, .unset, .unset, .unset] [(.int (7 : Int32)), (.int x5)])) _
    refine XS.iand X97.here hx rfl (hb hby at_15) rfl ?_
    show Steps p.tables e below (T97.setTop (mkF m 16 #[.val (.int x1), .val (.int x2), .val (.int x3), .val (.int x4), .val (.int x5), .val (.ref b90), .unset, .unset, .unset, .unset, .unset] [(.int (x5 &&& (7 : Int32)))])) _
    refine XS.istore X97.here hx rfl (hb hby at_16) rfl (l' := #[.val (.int x1), .val (.int x2), .val (.int x3), .val (.int x4), .val (.int x5), .val (.ref b90), .val (.int (x5 &&& (7 : Int32))), .unset, .unset, .unset, .unset]) rfl ?_
    show Steps p.tables e below (T97.setTop (mkF m 18 #[.val (.int x1), .val (.int x2), .val (.int x3), .val (.int x4), .val (.int x5), .val (.ref b90), .val (.int (x5 &&& (7 : Int32))), .unset, .unset, .unset, .unset] [])) _
    refine XS.iload X97.here hx rfl (hb hby at_18) rfl ?_
    show Steps p.tables e below (T97.setTop (mkF m 20 #[.val (.int x1), .val (.int x2), .val (.int x3), .val (.int x4), .val (.int x5), .val (.ref b90), .val (.int (x5 &&& (7 : Int32))), .unset, .unset, .unset, .unset] [(.int (x5 &&& (7 : Int32)))])) _
    exact k
  by_cases hm0 : (x5 &&& (7 : Int32)) = (0 : Int32)
  · have A102 : ∀ t, Steps p.tables e below (T97.setTop (mkF m 27 #[.val (.int x1), .val (.int x2), .val (.int x3), .val (.int x4), .val (.int x5), .val (.ref b90), .val (.int (x5 &&& (7 : Int32))), .unset, .unset, .unset, .unset] [(.ref b90), (.ref b90)])) t → Steps p.tables e below (s₁.setTop (entryFrame m #[(.int x1), (.int x2), (.int x3), (.int x4), (.int x5)] maxLocals)) t := by
      intro t k
      refine A101 _ ?_
      refine XS.ifNo X97.here hx rfl (hb hby at_20) rfl ((if0 _ _).trans (teq hm0).2) ?_
      show Steps p.tables e below (T97.setTop (mkF m 23 #[.val (.int x1), .val (.int x2), .val (.int x3), .val (.int x4), .val (.int x5), .val (.ref b90), .val (.int (x5 &&& (7 : Int32))), .unset, .unset, .unset, .unset] [])) _
      refine XS.aload X97.here hx rfl (hb hby at_23) rfl rfl ?_
      show Steps p.tables e below (T97.setTop (mkF m 25 #[.val (.int x1), .val (.int x2), .val (.int x3), .val (.int x4), .val (.int x5), .val (.ref b90), .val (.int (x5 &&& (7 : Int32))), .unset, .unset, .unset, .unset] [(.ref b90)])) _
      refine XS.aload X97.here hx rfl (hb hby at_25) rfl rfl ?_
      show Steps p.tables e below (T97.setTop (mkF m 27 #[.val (.int x1), .val (.int x2), .val (.int x3), .val (.int x4), .val (.int x5), .val (.ref b90), .val (.int (x5 &&& (7 : Int32))), .unset, .unset, .unset, .unset] [(.ref b90), (.ref b90)])) _
      exact k
    obtain ⟨cq103, kq103, q103a, q103b, q103c⟩ := isOf hZ rfl Ec97
    obtain ⟨_, _, ⟨T103, L103, k103, n103⟩, -, X103, ⟨Lc103, hQ103, l103, y103, z103⟩, st103⟩ := X97.virtualBack hx (y := (⟨"com/example/ennead/ennead/model/Hex", "equals", "(Ljava/lang/Object;)Z"⟩ : MethodName)) (z := (⟨"com/example/ennead/ennead/model/Hex", "equals", "(Ljava/lang/Object;)Z"⟩ : MethodName)) hown (mvT hZ (hw _ (List.mem_of_getElem? (i := 18) rfl))) (mvT hZ (hw _ (List.mem_of_getElem? (i := 19) rfl))) (notFace_of_selects (args := #[]) (mvT hZ (hw _ (List.mem_of_getElem? (i := 21) rfl)))) (mvT hZ (hw _ (List.mem_of_getElem? (i := 21) rfl))) (mvT hZ (hw _ (List.mem_of_getElem? (i := 20) rfl))) (by decide) (backOf (W := 0) (own_eqS l Z a0 hw [] b90 b90 x1 x2 x1 x2 T97.heap n0 Zs99 Ec97 Fc0_97 Fc0_97 Fc1_97 Fc1_97) hZ (hw _ (List.mem_of_getElem? (i := 22) rfl)) (hw _ (List.mem_of_getElem? (i := 2) rfl)) (by decide) (by decide)) q103a q103c (g := (mkF m 27 #[.val (.int x1), .val (.int x2), .val (.int x3), .val (.int x4), .val (.int x5), .val (.ref b90), .val (.int (x5 &&& (7 : Int32))), .unset, .unset, .unset, .unset] [(.ref b90), (.ref b90)])) rfl (by rw [hml]; rfl) (Steps.refl _) (argsL := [(.ref b90)]) (rest := []) (lenOf own_pd3 rfl) rfl (by show 2 * 0 + _ ≤ _; exact Nat.le_of_eq rfl) (hb hby at_27) (fun _ _ => ⟨rfl, rfl, (by decide : 1 + 0 ≤ _), (by decide : 2 + 0 ≤ _)⟩)
    dsimp only [Pt.U, Pt.locs, Pt.cells, Pt.slots] at X103 l103 y103 z103 st103 hQ103
    subst l103 y103 z103
    obtain ⟨rfl, Nq103, eh103⟩ := hQ103
    have Nf104 := Fr.app Nf98 Nq103
    have A105 : ∀ t, Steps p.tables e below (T103.setTop (mkF m 30 #[.val (.int x1), .val (.int x2), .val (.int x3), .val (.int x4), .val (.int x5), .val (.ref b90), .val (.int (x5 &&& (7 : Int32))), .unset, .unset, .unset, .unset] [(.int (own_eqv b90 b90 x1 x2 x1 x2))])) t → Steps p.tables e below (s₁.setTop (entryFrame m #[(.int x1), (.int x2), (.int x3), (.int x4), (.int x5)] maxLocals)) t := by
      intro t k
      refine A102 _ ?_
      refine st103.trans ?_
      show Steps p.tables e below (T103.setTop (mkF m 30 #[.val (.int x1), .val (.int x2), .val (.int x3), .val (.int x4), .val (.int x5), .val (.ref b90), .val (.int (x5 &&& (7 : Int32))), .unset, .unset, .unset, .unset] [(.int (own_eqv b90 b90 x1 x2 x1 x2))])) _
      exact k
    have hq : (own_eqv b90 b90 x1 x2 x1 x2) = 1 := by simp [own_eqv]
    obtain ⟨fs, hr, hrun, hended, hW, hsame⟩ := X103.leave (v := some (.int (own_eqv b90 b90 x1 x2 x1 x2))) (fun h => by rw [Bd.returns] at h; cases h)
    refine ⟨_, _, A105 _ ?_, hrun, hended, _, _, rfl, ?_, ⟨_, rfl⟩, hW, hsame.mono (by decide) (by decide)⟩
    · exact own_retN X103 hx (t := .boolean) Bd.returns (by simp) (own_nb (Or.inr hq)) (hb hby at_30) hr
    · show own_Q0 Z x1 x2 x3 x4 x5 h0 n0 _ T103.heap _
      rw [eh103]
      exact ⟨by rw [hq], Nf104⟩
  · have A106 : ∀ t, Steps p.tables e below (T97.setTop (mkF m 34 #[.val (.int x1), .val (.int x2), .val (.int x3), .val (.int x4), .val (.int x5), .val (.ref b90), .val (.int (x5 &&& (7 : Int32))), .unset, .unset, .unset, .unset] [(.int (1 : Int32)), (.int (x5 &&& (7 : Int32)))])) t → Steps p.tables e below (s₁.setTop (entryFrame m #[(.int x1), (.int x2), (.int x3), (.int x4), (.int x5)] maxLocals)) t := by
      intro t k
      refine A101 _ ?_
      refine XS.ifYes X97.here hx rfl (pc0 := 20) (pc' := 31) rfl (hb hby at_20) rfl ((if0 _ _).trans (feq hm0).2) (by decide) (by decide) ?_
      show Steps p.tables e below (T97.setTop (mkF m 31 #[.val (.int x1), .val (.int x2), .val (.int x3), .val (.int x4), .val (.int x5), .val (.ref b90), .val (.int (x5 &&& (7 : Int32))), .unset, .unset, .unset, .unset] [])) _
      refine XS.iload X97.here hx rfl (hb hby at_31) rfl ?_
      show Steps p.tables e below (T97.setTop (mkF m 33 #[.val (.int x1), .val (.int x2), .val (.int x3), .val (.int x4), .val (.int x5), .val (.ref b90), .val (.int (x5 &&& (7 : Int32))), .unset, .unset, .unset, .unset] [(.int (x5 &&& (7 : Int32)))])) _
      refine XS.iconst X97.here hx rfl (hb hby at_33) ?_
      show Steps p.tables e below (T97.setTop (mkF m 34 #[.val (.int x1), .val (.int x2), .val (.int x3), .val (.int x4), .val (.int x5), .val (.ref b90), .val (.int (x5 &&& (7 : Int32))), .unset, .unset, .unset, .unset] [(.int (1 : Int32)), (.int (x5 &&& (7 : Int32)))])) _
      exact k
    by_cases hm1 : (x5 &&& (7 : Int32)) = (1 : Int32)
    · have A107 : ∀ t, Steps p.tables e below (T97.setTop (mkF m 40 #[.val (.int x1), .val (.int x2), .val (.int x3), .val (.int x4), .val (.int x5), .val (.ref b90), .val (.int (x5 &&& (7 : Int32))), .unset, .unset, .unset, .unset] [.null, (.ref b90)])) t → Steps p.tables e below (s₁.setTop (entryFrame m #[(.int x1), (.int x2), (.int x3), (.int x4), (.int x5)] maxLocals)) t := by
        intro t k
        refine A106 _ ?_
        refine XS.icmpNo X97.here hx rfl (hb hby at_34) rfl (teq hm1).2 ?_
        show Steps p.tables e below (T97.setTop (mkF m 37 #[.val (.int x1), .val (.int x2), .val (.int x3), .val (.int x4), .val (.int x5), .val (.ref b90), .val (.int (x5 &&& (7 : Int32))), .unset, .unset, .unset, .unset] [])) _
        refine XS.aload X97.here hx rfl (hb hby at_37) rfl rfl ?_
        show Steps p.tables e below (T97.setTop (mkF m 39 #[.val (.int x1), .val (.int x2), .val (.int x3), .val (.int x4), .val (.int x5), .val (.ref b90), .val (.int (x5 &&& (7 : Int32))), .unset, .unset, .unset, .unset] [(.ref b90)])) _
        refine XS.aconstNull X97.here hx rfl (hb hby at_39) ?_
        show Steps p.tables e below (T97.setTop (mkF m 40 #[.val (.int x1), .val (.int x2), .val (.int x3), .val (.int x4), .val (.int x5), .val (.ref b90), .val (.int (x5 &&& (7 : Int32))), .unset, .unset, .unset, .unset] [.null, (.ref b90)])) _
        exact k
      obtain ⟨cq108, kq108, q108a, q108b, q108c⟩ := isOf hZ rfl Ec97
      obtain ⟨_, _, ⟨T108, L108, k108, n108⟩, -, X108, ⟨Lc108, hQ108, l108, y108, z108⟩, st108⟩ := X97.virtualBack hx (y := (⟨"com/example/ennead/ennead/model/Hex", "equals", "(Ljava/lang/Object;)Z"⟩ : MethodName)) (z := (⟨"com/example/ennead/ennead/model/Hex", "equals", "(Ljava/lang/Object;)Z"⟩ : MethodName)) hown (mvT hZ (hw _ (List.mem_of_getElem? (i := 18) rfl))) (mvT hZ (hw _ (List.mem_of_getElem? (i := 19) rfl))) (notFace_of_selects (args := #[]) (mvT hZ (hw _ (List.mem_of_getElem? (i := 21) rfl)))) (mvT hZ (hw _ (List.mem_of_getElem? (i := 21) rfl))) (mvT hZ (hw _ (List.mem_of_getElem? (i := 20) rfl))) (by decide) (backOf (W := 0) (own_eqN l Z a0 hw [] b90 T97.heap n0 Zs99) hZ (hw _ (List.mem_of_getElem? (i := 22) rfl)) (hw _ (List.mem_of_getElem? (i := 2) rfl)) (by decide) (by decide)) q108a q108c (g := (mkF m 40 #[.val (.int x1), .val (.int x2), .val (.int x3), .val (.int x4), .val (.int x5), .val (.ref b90), .val (.int (x5 &&& (7 : Int32))), .unset, .unset, .unset, .unset] [.null, (.ref b90)])) rfl (by rw [hml]; rfl) (Steps.refl _) (argsL := [.null]) (rest := []) (lenOf own_pd3 rfl) rfl (by show 2 * 0 + _ ≤ _; exact Nat.le_of_eq rfl) (hb hby at_40) (fun _ _ => ⟨rfl, rfl, (by decide : 1 + 0 ≤ _), (by decide : 2 + 0 ≤ _)⟩)
      dsimp only [Pt.U, Pt.locs, Pt.cells, Pt.slots] at X108 l108 y108 z108 st108 hQ108
      subst l108 y108 z108
      obtain ⟨rfl, Nq108, eh108⟩ := hQ108
      have Nf109 := Fr.app Nf98 Nq108
      have A110 : ∀ t, Steps p.tables e below (T108.setTop (mkF m 51 #[.val (.int x1), .val (.int x2), .val (.int x3), .val (.int x4), .val (.int x5), .val (.ref b90), .val (.int (x5 &&& (7 : Int32))), .unset, .unset, .unset, .unset] [(.int (1 : Int32))])) t → Steps p.tables e below (s₁.setTop (entryFrame m #[(.int x1), (.int x2), (.int x3), (.int x4), (.int x5)] maxLocals)) t := by
        intro t k
        refine A107 _ ?_
        refine st108.trans ?_
        show Steps p.tables e below (T108.setTop (mkF m 43 #[.val (.int x1), .val (.int x2), .val (.int x3), .val (.int x4), .val (.int x5), .val (.ref b90), .val (.int (x5 &&& (7 : Int32))), .unset, .unset, .unset, .unset] [(.int (0 : Int32))])) _
        refine XS.ifNo X108.here hx rfl (hb hby at_43) rfl ((if0 _ _).trans (teq (by decide : ((0 : Int32) = (0 : Int32)))).2) ?_
        show Steps p.tables e below (T108.setTop (mkF m 46 #[.val (.int x1), .val (.int x2), .val (.int x3), .val (.int x4), .val (.int x5), .val (.ref b90), .val (.int (x5 &&& (7 : Int32))), .unset, .unset, .unset, .unset] [])) _
        refine XS.iconst X108.here hx rfl (hb hby at_46) ?_
        show Steps p.tables e below (T108.setTop (mkF m 47 #[.val (.int x1), .val (.int x2), .val (.int x3), .val (.int x4), .val (.int x5), .val (.ref b90), .val (.int (x5 &&& (7 : Int32))), .unset, .unset, .unset, .unset] [(.int (1 : Int32))])) _
        refine XS.goto X108.here hx rfl (pc0 := 47) (pc' := 51) rfl (hb hby at_47) (by decide) (by decide) ?_
        show Steps p.tables e below (T108.setTop (mkF m 51 #[.val (.int x1), .val (.int x2), .val (.int x3), .val (.int x4), .val (.int x5), .val (.ref b90), .val (.int (x5 &&& (7 : Int32))), .unset, .unset, .unset, .unset] [(.int (1 : Int32))])) _
        exact k
      obtain ⟨fs, hr, hrun, hended, hW, hsame⟩ := X108.leave (v := some (.int (1 : Int32))) (fun h => by rw [Bd.returns] at h; cases h)
      refine ⟨_, _, A110 _ ?_, hrun, hended, _, _, rfl, ?_, ⟨_, rfl⟩, hW, hsame.mono (by decide) (by decide)⟩
      · exact retN X108 hx (t := .boolean) Bd.returns (by simp) (hb hby at_51) hr
      · show own_Q0 Z x1 x2 x3 x4 x5 h0 n0 _ T108.heap _
        rw [eh108]
        exact ⟨rfl, Nf109⟩
    · have A111 : ∀ t, Steps p.tables e below (T97.setTop (mkF m 55 #[.val (.int x1), .val (.int x2), .val (.int x3), .val (.int x4), .val (.int x5), .val (.ref b90), .val (.int (x5 &&& (7 : Int32))), .unset, .unset, .unset, .unset] [(.int (2 : Int32)), (.int (x5 &&& (7 : Int32)))])) t → Steps p.tables e below (s₁.setTop (entryFrame m #[(.int x1), (.int x2), (.int x3), (.int x4), (.int x5)] maxLocals)) t := by
        intro t k
        refine A106 _ ?_
        refine XS.icmpYes X97.here hx rfl (pc0 := 34) (pc' := 52) rfl (hb hby at_34) rfl (feq hm1).2 (by decide) (by decide) ?_
        show Steps p.tables e below (T97.setTop (mkF m 52 #[.val (.int x1), .val (.int x2), .val (.int x3), .val (.int x4), .val (.int x5), .val (.ref b90), .val (.int (x5 &&& (7 : Int32))), .unset, .unset, .unset, .unset] [])) _
        refine XS.iload X97.here hx rfl (hb hby at_52) rfl ?_
        show Steps p.tables e below (T97.setTop (mkF m 54 #[.val (.int x1), .val (.int x2), .val (.int x3), .val (.int x4), .val (.int x5), .val (.ref b90), .val (.int (x5 &&& (7 : Int32))), .unset, .unset, .unset, .unset] [(.int (x5 &&& (7 : Int32)))])) _
        refine XS.iconst X97.here hx rfl (hb hby at_54) ?_
        show Steps p.tables e below (T97.setTop (mkF m 55 #[.val (.int x1), .val (.int x2), .val (.int x3), .val (.int x4), .val (.int x5), .val (.ref b90), .val (.int (x5 &&& (7 : Int32))), .unset, .unset, .unset, .unset] [(.int (2 : Int32)), (.int (x5 &&& (7 : Int32)))])) _
        exact k
      by_cases hm2 : (x5 &&& (7 : Int32)) = (2 : Int32)
      · have A112 : ∀ t, Steps p.tables e below (T97.setTop (mkF m 61 #[.val (.int x1), .val (.int x2), .val (.int x3), .val (.int x4), .val (.int x5), .val (.ref b90), .val (.int (x5 &&& (7 : Int32))), .unset, .unset, .unset, .unset] [(.int x1), (.ref b90)])) t → Steps p.tables e below (s₁.setTop (entryFrame m #[(.int x1), (.int x2), (.int x3), (.int x4), (.int x5)] maxLocals)) t := by
          intro t k
          refine A111 _ ?_
          refine XS.icmpNo X97.here hx rfl (hb hby at_55) rfl (teq hm2).2 ?_
          show Steps p.tables e below (T97.setTop (mkF m 58 #[.val (.int x1), .val (.int x2), .val (.int x3), .val (.int x4), .val (.int x5), .val (.ref b90), .val (.int (x5 &&& (7 : Int32))), .unset, .unset, .unset, .unset] [])) _
          refine XS.aload X97.here hx rfl (hb hby at_58) rfl rfl ?_
          show Steps p.tables e below (T97.setTop (mkF m 60 #[.val (.int x1), .val (.int x2), .val (.int x3), .val (.int x4), .val (.int x5), .val (.ref b90), .val (.int (x5 &&& (7 : Int32))), .unset, .unset, .unset, .unset] [(.ref b90)])) _
          refine XS.iloadN X97.here hx rfl (hb hby at_60) rfl ?_
          show Steps p.tables e below (T97.setTop (mkF m 61 #[.val (.int x1), .val (.int x2), .val (.int x3), .val (.int x4), .val (.int x5), .val (.ref b90), .val (.int (x5 &&& (7 : Int32))), .unset, .unset, .unset, .unset] [(.int x1), (.ref b90)])) _
          exact k
        obtain ⟨_, _, ⟨T113, L113, k113, n113⟩, -, X113, ⟨Lc113, hQ113, l113, y113, z113⟩, st113⟩ := Jvm.LawKit.callS X97 hx (y := (⟨"java/lang/Integer", "valueOf", "(I)Ljava/lang/Integer;"⟩ : MethodName)) hown (mvT hZ (hw _ (List.mem_of_getElem? (i := 25) rfl))) (mvT hZ (hw _ (List.mem_of_getElem? (i := 26) rfl))) (mvT hZ (hw _ (List.mem_of_getElem? (i := 27) rfl))) (mvT hZ (hw _ (List.mem_of_getElem? (i := 28) rfl))) (by decide) (backOf (W := 1) (own_vo l Z a0 hw [] x1 vc cc T97.heap n0 Zs99 SH SC AC sz hel Ol100) hZ (hw _ (List.mem_of_getElem? (i := 28) rfl)) (hw _ (List.mem_of_getElem? (i := 27) rfl)) (by decide) (by decide)) (g := (mkF m 61 #[.val (.int x1), .val (.int x2), .val (.int x3), .val (.int x4), .val (.int x5), .val (.ref b90), .val (.int (x5 &&& (7 : Int32))), .unset, .unset, .unset, .unset] [(.int x1), (.ref b90)])) rfl (by rw [hml]; rfl) (argsL := [(.int x1)]) (rest := [(.ref b90)]) (lenOf own_pd4 rfl) rfl (by show 2 * 0 + _ ≤ _; exact Nat.le_of_eq rfl) (hb hby at_61) (fun _ _ => ⟨rfl, rfl, (by decide : 1 + 1 ≤ _), (by decide : 2 + 1 ≤ _)⟩)
        dsimp only [Pt.U, Pt.locs, Pt.cells, Pt.slots] at X113 l113 y113 z113 st113 hQ113
        subst l113 y113 z113
        obtain ⟨r113, rfl, Nq113, Xe113, Er113⟩ := hQ113
        have Nf114 := Fr.app Nf98 Nq113
        have Ex115 := Ec97.ext Xe113
        have Fl116 := Fc0_97.ext Xe113
        have Fl117 := Fc1_97.ext Xe113
        have Zs118 := Nat.le_trans Zs99 Xe113.1
        have Ol119 := Ol100.ext Xe113
        have A120 : ∀ t, Steps p.tables e below (T113.setTop (mkF m 64 #[.val (.int x1), .val (.int x2), .val (.int x3), .val (.int x4), .val (.int x5), .val (.ref b90), .val (.int (x5 &&& (7 : Int32))), .unset, .unset, .unset, .unset] [(.ref r113), (.ref b90)])) t → Steps p.tables e below (s₁.setTop (entryFrame m #[(.int x1), (.int x2), (.int x3), (.int x4), (.int x5)] maxLocals)) t := by
          intro t k
          refine A112 _ ?_
          refine st113 _ ?_
          show Steps p.tables e below (T113.setTop (mkF m 64 #[.val (.int x1), .val (.int x2), .val (.int x3), .val (.int x4), .val (.int x5), .val (.ref b90), .val (.int (x5 &&& (7 : Int32))), .unset, .unset, .unset, .unset] [(.ref r113), (.ref b90)])) _
          exact k
        obtain ⟨cq121, kq121, q121a, q121b, q121c⟩ := isOf hZ rfl Ex115
        obtain ⟨_, _, ⟨T121, L121, k121, n121⟩, -, X121, ⟨Lc121, hQ121, l121, y121, z121⟩, st121⟩ := X113.virtualBack hx (y := (⟨"com/example/ennead/ennead/model/Hex", "equals", "(Ljava/lang/Object;)Z"⟩ : MethodName)) (z := (⟨"com/example/ennead/ennead/model/Hex", "equals", "(Ljava/lang/Object;)Z"⟩ : MethodName)) hown (mvT hZ (hw _ (List.mem_of_getElem? (i := 18) rfl))) (mvT hZ (hw _ (List.mem_of_getElem? (i := 19) rfl))) (notFace_of_selects (args := #[]) (mvT hZ (hw _ (List.mem_of_getElem? (i := 21) rfl)))) (mvT hZ (hw _ (List.mem_of_getElem? (i := 21) rfl))) (mvT hZ (hw _ (List.mem_of_getElem? (i := 20) rfl))) (by decide) (backOf (W := 0) (own_eqI l Z a0 hw [] b90 r113 T113.heap n0 Zs118 Ex115 Er113) hZ (hw _ (List.mem_of_getElem? (i := 22) rfl)) (hw _ (List.mem_of_getElem? (i := 2) rfl)) (by decide) (by decide)) q121a q121c (g := (mkF m 64 #[.val (.int x1), .val (.int x2), .val (.int x3), .val (.int x4), .val (.int x5), .val (.ref b90), .val (.int (x5 &&& (7 : Int32))), .unset, .unset, .unset, .unset] [(.ref r113), (.ref b90)])) rfl (by rw [hml]; rfl) (Steps.refl _) (argsL := [(.ref r113)]) (rest := []) (lenOf own_pd3 rfl) rfl (by show 2 * 0 + _ ≤ _; exact Nat.le_of_eq rfl) (hb hby at_64) (fun _ _ => ⟨rfl, rfl, (by decide : 2 + 0 ≤ _), (by decide : 3 + 0 ≤ _)⟩)
        dsimp only [Pt.U, Pt.locs, Pt.cells, Pt.slots] at X121 l121 y121 z121 st121 hQ121
        subst l121 y121 z121
        obtain ⟨rfl, Nq121, eh121⟩ := hQ121
        have Nf122 := Fr.app Nf114 Nq121
        have A123 : ∀ t, Steps p.tables e below (T121.setTop (mkF m 75 #[.val (.int x1), .val (.int x2), .val (.int x3), .val (.int x4), .val (.int x5), .val (.ref b90), .val (.int (x5 &&& (7 : Int32))), .unset, .unset, .unset, .unset] [(.int (1 : Int32))])) t → Steps p.tables e below (s₁.setTop (entryFrame m #[(.int x1), (.int x2), (.int x3), (.int x4), (.int x5)] maxLocals)) t := by
          intro t k
          refine A120 _ ?_
          refine st121.trans ?_
          show Steps p.tables e below (T121.setTop (mkF m 67 #[.val (.int x1), .val (.int x2), .val (.int x3), .val (.int x4), .val (.int x5), .val (.ref b90), .val (.int (x5 &&& (7 : Int32))), .unset, .unset, .unset, .unset] [(.int (0 : Int32))])) _
          refine XS.ifNo X121.here hx rfl (hb hby at_67) rfl ((if0 _ _).trans (teq (by decide : ((0 : Int32) = (0 : Int32)))).2) ?_
          show Steps p.tables e below (T121.setTop (mkF m 70 #[.val (.int x1), .val (.int x2), .val (.int x3), .val (.int x4), .val (.int x5), .val (.ref b90), .val (.int (x5 &&& (7 : Int32))), .unset, .unset, .unset, .unset] [])) _
          refine XS.iconst X121.here hx rfl (hb hby at_70) ?_
          show Steps p.tables e below (T121.setTop (mkF m 71 #[.val (.int x1), .val (.int x2), .val (.int x3), .val (.int x4), .val (.int x5), .val (.ref b90), .val (.int (x5 &&& (7 : Int32))), .unset, .unset, .unset, .unset] [(.int (1 : Int32))])) _
          refine XS.goto X121.here hx rfl (pc0 := 71) (pc' := 75) rfl (hb hby at_71) (by decide) (by decide) ?_
          show Steps p.tables e below (T121.setTop (mkF m 75 #[.val (.int x1), .val (.int x2), .val (.int x3), .val (.int x4), .val (.int x5), .val (.ref b90), .val (.int (x5 &&& (7 : Int32))), .unset, .unset, .unset, .unset] [(.int (1 : Int32))])) _
          exact k
        obtain ⟨fs, hr, hrun, hended, hW, hsame⟩ := X121.leave (v := some (.int (1 : Int32))) (fun h => by rw [Bd.returns] at h; cases h)
        refine ⟨_, _, A123 _ ?_, hrun, hended, _, _, rfl, ?_, ⟨_, rfl⟩, hW, hsame.mono (by decide) (by decide)⟩
        · exact retN X121 hx (t := .boolean) Bd.returns (by simp) (hb hby at_75) hr
        · show own_Q0 Z x1 x2 x3 x4 x5 h0 n0 _ T121.heap _
          rw [eh121]
          exact ⟨rfl, Nf122⟩
      · have A124 : ∀ t, Steps p.tables e below (T97.setTop (mkF m 79 #[.val (.int x1), .val (.int x2), .val (.int x3), .val (.int x4), .val (.int x5), .val (.ref b90), .val (.int (x5 &&& (7 : Int32))), .unset, .unset, .unset, .unset] [(.int (3 : Int32)), (.int (x5 &&& (7 : Int32)))])) t → Steps p.tables e below (s₁.setTop (entryFrame m #[(.int x1), (.int x2), (.int x3), (.int x4), (.int x5)] maxLocals)) t := by
          intro t k
          refine A111 _ ?_
          refine XS.icmpYes X97.here hx rfl (pc0 := 55) (pc' := 76) rfl (hb hby at_55) rfl (feq hm2).2 (by decide) (by decide) ?_
          show Steps p.tables e below (T97.setTop (mkF m 76 #[.val (.int x1), .val (.int x2), .val (.int x3), .val (.int x4), .val (.int x5), .val (.ref b90), .val (.int (x5 &&& (7 : Int32))), .unset, .unset, .unset, .unset] [])) _
          refine XS.iload X97.here hx rfl (hb hby at_76) rfl ?_
          show Steps p.tables e below (T97.setTop (mkF m 78 #[.val (.int x1), .val (.int x2), .val (.int x3), .val (.int x4), .val (.int x5), .val (.ref b90), .val (.int (x5 &&& (7 : Int32))), .unset, .unset, .unset, .unset] [(.int (x5 &&& (7 : Int32)))])) _
          refine XS.iconst X97.here hx rfl (hb hby at_78) ?_
          show Steps p.tables e below (T97.setTop (mkF m 79 #[.val (.int x1), .val (.int x2), .val (.int x3), .val (.int x4), .val (.int x5), .val (.ref b90), .val (.int (x5 &&& (7 : Int32))), .unset, .unset, .unset, .unset] [(.int (3 : Int32)), (.int (x5 &&& (7 : Int32)))])) _
          exact k
        obtain ⟨u128, hu128⟩ : ∃ u : Int32, u = (if (x5 &&& (7 : Int32)) = (3 : Int32) then x1 else (if (x5 &&& (7 : Int32)) = (4 : Int32) then x1 else x3)) := ⟨_, rfl⟩
        obtain ⟨u129, hu129⟩ : ∃ u : Int32, u = (if (x5 &&& (7 : Int32)) = (3 : Int32) then x2 else (if (x5 &&& (7 : Int32)) = (4 : Int32) then x4 else (if (x5 &&& (7 : Int32)) = (5 : Int32) then x2 else x4))) := ⟨_, rfl⟩
        have A130 : ∀ t, Steps p.tables e below (T97.setTop (mkF m 127 #[.val (.int x1), .val (.int x2), .val (.int x3), .val (.int x4), .val (.int x5), .val (.ref b90), .val (.int (x5 &&& (7 : Int32))), .val (.int u128), .val (.int u129), .unset, .unset] [])) t → Steps p.tables e below (s₁.setTop (entryFrame m #[(.int x1), (.int x2), (.int x3), (.int x4), (.int x5)] maxLocals)) t := by
          intro t k
          refine A124 _ ?_
          by_cases hj125 : (x5 &&& (7 : Int32)) = (3 : Int32)
          · refine XS.icmpNo X97.here hx rfl (hb hby at_79) rfl (teq hj125).2 ?_
            show Steps p.tables e below (T97.setTop (mkF m 82 #[.val (.int x1), .val (.int x2), .val (.int x3), .val (.int x4), .val (.int x5), .val (.ref b90), .val (.int (x5 &&& (7 : Int32))), .unset, .unset, .unset, .unset] [])) _
            refine XS.iloadN X97.here hx rfl (hb hby at_82) rfl ?_
            show Steps p.tables e below (T97.setTop (mkF m 83 #[.val (.int x1), .val (.int x2), .val (.int x3), .val (.int x4), .val (.int x5), .val (.ref b90), .val (.int (x5 &&& (7 : Int32))), .unset, .unset, .unset, .unset] [(.int x1)])) _
            refine XS.istore X97.here hx rfl (hb hby at_83) rfl (l' := #[.val (.int x1), .val (.int x2), .val (.int x3), .val (.int x4), .val (.int x5), .val (.ref b90), .val (.int (x5 &&& (7 : Int32))), .val (.int x1), .unset, .unset, .unset]) rfl ?_
            show Steps p.tables e below (T97.setTop (mkF m 85 #[.val (.int x1), .val (.int x2), .val (.int x3), .val (.int x4), .val (.int x5), .val (.ref b90), .val (.int (x5 &&& (7 : Int32))), .val (.int x1), .unset, .unset, .unset] [])) _
            refine XS.iloadN X97.here hx rfl (hb hby at_85) rfl ?_
            show Steps p.tables e below (T97.setTop (mkF m 86 #[.val (.int x1), .val (.int x2), .val (.int x3), .val (.int x4), .val (.int x5), .val (.ref b90), .val (.int (x5 &&& (7 : Int32))), .val (.int x1), .unset, .unset, .unset] [(.int x2)])) _
            refine XS.istore X97.here hx rfl (hb hby at_86) rfl (l' := #[.val (.int x1), .val (.int x2), .val (.int x3), .val (.int x4), .val (.int x5), .val (.ref b90), .val (.int (x5 &&& (7 : Int32))), .val (.int x1), .val (.int x2), .unset, .unset]) rfl ?_
            show Steps p.tables e below (T97.setTop (mkF m 88 #[.val (.int x1), .val (.int x2), .val (.int x3), .val (.int x4), .val (.int x5), .val (.ref b90), .val (.int (x5 &&& (7 : Int32))), .val (.int x1), .val (.int x2), .unset, .unset] [])) _
            refine XS.goto X97.here hx rfl (pc0 := 88) (pc' := 127) rfl (hb hby at_88) (by decide) (by decide) ?_
            show Steps p.tables e below (T97.setTop (mkF m 127 #[.val (.int x1), .val (.int x2), .val (.int x3), .val (.int x4), .val (.int x5), .val (.ref b90), .val (.int (x5 &&& (7 : Int32))), .val (.int x1), .val (.int x2), .unset, .unset] [])) _
            have qu128 : u128 = x1 := by rw [hu128]; simp [hj125]
            rw [qu128] at k
            have qu129 : u129 = x2 := by rw [hu129]; simp [hj125]
            rw [qu129] at k
            exact k
          · refine XS.icmpYes X97.here hx rfl (pc0 := 79) (pc' := 91) rfl (hb hby at_79) rfl (feq hj125).2 (by decide) (by decide) ?_
            show Steps p.tables e below (T97.setTop (mkF m 91 #[.val (.int x1), .val (.int x2), .val (.int x3), .val (.int x4), .val (.int x5), .val (.ref b90), .val (.int (x5 &&& (7 : Int32))), .unset, .unset, .unset, .unset] [])) _
            refine XS.iload X97.here hx rfl (hb hby at_91) rfl ?_
            show Steps p.tables e below (T97.setTop (mkF m 93 #[.val (.int x1), .val (.int x2), .val (.int x3), .val (.int x4), .val (.int x5), .val (.ref b90), .val (.int (x5 &&& (7 : Int32))), .unset, .unset, .unset, .unset] [(.int (x5 &&& (7 : Int32)))])) _
            refine XS.iconst X97.here hx rfl (hb hby at_93) ?_
            show Steps p.tables e below (T97.setTop (mkF m 94 #[.val (.int x1), .val (.int x2), .val (.int x3), .val (.int x4), .val (.int x5), .val (.ref b90), .val (.int (x5 &&& (7 : Int32))), .unset, .unset, .unset, .unset] [(.int (4 : Int32)), (.int (x5 &&& (7 : Int32)))])) _
            by_cases hj126 : (x5 &&& (7 : Int32)) = (4 : Int32)
            · refine XS.icmpNo X97.here hx rfl (hb hby at_94) rfl (teq hj126).2 ?_
              show Steps p.tables e below (T97.setTop (mkF m 97 #[.val (.int x1), .val (.int x2), .val (.int x3), .val (.int x4), .val (.int x5), .val (.ref b90), .val (.int (x5 &&& (7 : Int32))), .unset, .unset, .unset, .unset] [])) _
              refine XS.iloadN X97.here hx rfl (hb hby at_97) rfl ?_
              show Steps p.tables e below (T97.setTop (mkF m 98 #[.val (.int x1), .val (.int x2), .val (.int x3), .val (.int x4), .val (.int x5), .val (.ref b90), .val (.int (x5 &&& (7 : Int32))), .unset, .unset, .unset, .unset] [(.int x1)])) _
              refine XS.istore X97.here hx rfl (hb hby at_98) rfl (l' := #[.val (.int x1), .val (.int x2), .val (.int x3), .val (.int x4), .val (.int x5), .val (.ref b90), .val (.int (x5 &&& (7 : Int32))), .val (.int x1), .unset, .unset, .unset]) rfl ?_
              show Steps p.tables e below (T97.setTop (mkF m 100 #[.val (.int x1), .val (.int x2), .val (.int x3), .val (.int x4), .val (.int x5), .val (.ref b90), .val (.int (x5 &&& (7 : Int32))), .val (.int x1), .unset, .unset, .unset] [])) _
              refine XS.iloadN X97.here hx rfl (hb hby at_100) rfl ?_
              show Steps p.tables e below (T97.setTop (mkF m 101 #[.val (.int x1), .val (.int x2), .val (.int x3), .val (.int x4), .val (.int x5), .val (.ref b90), .val (.int (x5 &&& (7 : Int32))), .val (.int x1), .unset, .unset, .unset] [(.int x4)])) _
              refine XS.istore X97.here hx rfl (hb hby at_101) rfl (l' := #[.val (.int x1), .val (.int x2), .val (.int x3), .val (.int x4), .val (.int x5), .val (.ref b90), .val (.int (x5 &&& (7 : Int32))), .val (.int x1), .val (.int x4), .unset, .unset]) rfl ?_
              show Steps p.tables e below (T97.setTop (mkF m 103 #[.val (.int x1), .val (.int x2), .val (.int x3), .val (.int x4), .val (.int x5), .val (.ref b90), .val (.int (x5 &&& (7 : Int32))), .val (.int x1), .val (.int x4), .unset, .unset] [])) _
              refine XS.goto X97.here hx rfl (pc0 := 103) (pc' := 127) rfl (hb hby at_103) (by decide) (by decide) ?_
              show Steps p.tables e below (T97.setTop (mkF m 127 #[.val (.int x1), .val (.int x2), .val (.int x3), .val (.int x4), .val (.int x5), .val (.ref b90), .val (.int (x5 &&& (7 : Int32))), .val (.int x1), .val (.int x4), .unset, .unset] [])) _
              have qu128 : u128 = x1 := by rw [hu128]; simp [hj125, hj126]
              rw [qu128] at k
              have qu129 : u129 = x4 := by rw [hu129]; simp [hj125, hj126]
              rw [qu129] at k
              exact k
            · refine XS.icmpYes X97.here hx rfl (pc0 := 94) (pc' := 106) rfl (hb hby at_94) rfl (feq hj126).2 (by decide) (by decide) ?_
              show Steps p.tables e below (T97.setTop (mkF m 106 #[.val (.int x1), .val (.int x2), .val (.int x3), .val (.int x4), .val (.int x5), .val (.ref b90), .val (.int (x5 &&& (7 : Int32))), .unset, .unset, .unset, .unset] [])) _
              refine XS.iload X97.here hx rfl (hb hby at_106) rfl ?_
              show Steps p.tables e below (T97.setTop (mkF m 108 #[.val (.int x1), .val (.int x2), .val (.int x3), .val (.int x4), .val (.int x5), .val (.ref b90), .val (.int (x5 &&& (7 : Int32))), .unset, .unset, .unset, .unset] [(.int (x5 &&& (7 : Int32)))])) _
              refine XS.iconst X97.here hx rfl (hb hby at_108) ?_
              show Steps p.tables e below (T97.setTop (mkF m 109 #[.val (.int x1), .val (.int x2), .val (.int x3), .val (.int x4), .val (.int x5), .val (.ref b90), .val (.int (x5 &&& (7 : Int32))), .unset, .unset, .unset, .unset] [(.int (5 : Int32)), (.int (x5 &&& (7 : Int32)))])) _
              by_cases hj127 : (x5 &&& (7 : Int32)) = (5 : Int32)
              · refine XS.icmpNo X97.here hx rfl (hb hby at_109) rfl (teq hj127).2 ?_
                show Steps p.tables e below (T97.setTop (mkF m 112 #[.val (.int x1), .val (.int x2), .val (.int x3), .val (.int x4), .val (.int x5), .val (.ref b90), .val (.int (x5 &&& (7 : Int32))), .unset, .unset, .unset, .unset] [])) _
                refine XS.iloadN X97.here hx rfl (hb hby at_112) rfl ?_
                show Steps p.tables e below (T97.setTop (mkF m 113 #[.val (.int x1), .val (.int x2), .val (.int x3), .val (.int x4), .val (.int x5), .val (.ref b90), .val (.int (x5 &&& (7 : Int32))), .unset, .unset, .unset, .unset] [(.int x3)])) _
                refine XS.istore X97.here hx rfl (hb hby at_113) rfl (l' := #[.val (.int x1), .val (.int x2), .val (.int x3), .val (.int x4), .val (.int x5), .val (.ref b90), .val (.int (x5 &&& (7 : Int32))), .val (.int x3), .unset, .unset, .unset]) rfl ?_
                show Steps p.tables e below (T97.setTop (mkF m 115 #[.val (.int x1), .val (.int x2), .val (.int x3), .val (.int x4), .val (.int x5), .val (.ref b90), .val (.int (x5 &&& (7 : Int32))), .val (.int x3), .unset, .unset, .unset] [])) _
                refine XS.iloadN X97.here hx rfl (hb hby at_115) rfl ?_
                show Steps p.tables e below (T97.setTop (mkF m 116 #[.val (.int x1), .val (.int x2), .val (.int x3), .val (.int x4), .val (.int x5), .val (.ref b90), .val (.int (x5 &&& (7 : Int32))), .val (.int x3), .unset, .unset, .unset] [(.int x2)])) _
                refine XS.istore X97.here hx rfl (hb hby at_116) rfl (l' := #[.val (.int x1), .val (.int x2), .val (.int x3), .val (.int x4), .val (.int x5), .val (.ref b90), .val (.int (x5 &&& (7 : Int32))), .val (.int x3), .val (.int x2), .unset, .unset]) rfl ?_
                show Steps p.tables e below (T97.setTop (mkF m 118 #[.val (.int x1), .val (.int x2), .val (.int x3), .val (.int x4), .val (.int x5), .val (.ref b90), .val (.int (x5 &&& (7 : Int32))), .val (.int x3), .val (.int x2), .unset, .unset] [])) _
                refine XS.goto X97.here hx rfl (pc0 := 118) (pc' := 127) rfl (hb hby at_118) (by decide) (by decide) ?_
                show Steps p.tables e below (T97.setTop (mkF m 127 #[.val (.int x1), .val (.int x2), .val (.int x3), .val (.int x4), .val (.int x5), .val (.ref b90), .val (.int (x5 &&& (7 : Int32))), .val (.int x3), .val (.int x2), .unset, .unset] [])) _
                have qu128 : u128 = x3 := by rw [hu128]; simp [hj125, hj126, hj127]
                rw [qu128] at k
                have qu129 : u129 = x2 := by rw [hu129]; simp [hj125, hj126, hj127]
                rw [qu129] at k
                exact k
              · refine XS.icmpYes X97.here hx rfl (pc0 := 109) (pc' := 121) rfl (hb hby at_109) rfl (feq hj127).2 (by decide) (by decide) ?_
                show Steps p.tables e below (T97.setTop (mkF m 121 #[.val (.int x1), .val (.int x2), .val (.int x3), .val (.int x4), .val (.int x5), .val (.ref b90), .val (.int (x5 &&& (7 : Int32))), .unset, .unset, .unset, .unset] [])) _
                refine XS.iloadN X97.here hx rfl (hb hby at_121) rfl ?_
                show Steps p.tables e below (T97.setTop (mkF m 122 #[.val (.int x1), .val (.int x2), .val (.int x3), .val (.int x4), .val (.int x5), .val (.ref b90), .val (.int (x5 &&& (7 : Int32))), .unset, .unset, .unset, .unset] [(.int x3)])) _
                refine XS.istore X97.here hx rfl (hb hby at_122) rfl (l' := #[.val (.int x1), .val (.int x2), .val (.int x3), .val (.int x4), .val (.int x5), .val (.ref b90), .val (.int (x5 &&& (7 : Int32))), .val (.int x3), .unset, .unset, .unset]) rfl ?_
                show Steps p.tables e below (T97.setTop (mkF m 124 #[.val (.int x1), .val (.int x2), .val (.int x3), .val (.int x4), .val (.int x5), .val (.ref b90), .val (.int (x5 &&& (7 : Int32))), .val (.int x3), .unset, .unset, .unset] [])) _
                refine XS.iloadN X97.here hx rfl (hb hby at_124) rfl ?_
                show Steps p.tables e below (T97.setTop (mkF m 125 #[.val (.int x1), .val (.int x2), .val (.int x3), .val (.int x4), .val (.int x5), .val (.ref b90), .val (.int (x5 &&& (7 : Int32))), .val (.int x3), .unset, .unset, .unset] [(.int x4)])) _
                refine XS.istore X97.here hx rfl (hb hby at_125) rfl (l' := #[.val (.int x1), .val (.int x2), .val (.int x3), .val (.int x4), .val (.int x5), .val (.ref b90), .val (.int (x5 &&& (7 : Int32))), .val (.int x3), .val (.int x4), .unset, .unset]) rfl ?_
                show Steps p.tables e below (T97.setTop (mkF m 127 #[.val (.int x1), .val (.int x2), .val (.int x3), .val (.int x4), .val (.int x5), .val (.ref b90), .val (.int (x5 &&& (7 : Int32))), .val (.int x3), .val (.int x4), .unset, .unset] [])) _
                have qu128 : u128 = x3 := by rw [hu128]; simp [hj125, hj126, hj127]
                rw [qu128] at k
                have qu129 : u129 = x4 := by rw [hu129]; simp [hj125, hj126, hj127]
                rw [qu129] at k
                exact k
        obtain ⟨T131, h131, X131, e131, E131, B131, D131, -, st131⟩ := newO X97 hx hZ hown (hw _ (List.mem_of_getElem? (i := 0) rfl)) (hw _ (List.mem_of_getElem? (i := 1) rfl)) (hw _ (List.mem_of_getElem? (i := 2) rfl)) rfl (g := (mkF m 127 #[.val (.int x1), .val (.int x2), .val (.int x3), .val (.int x4), .val (.int x5), .val (.ref b90), .val (.int (x5 &&& (7 : Int32))), .val (.int u128), .val (.int u129), .unset, .unset] [])) rfl (hb hby at_127) (by decide) (by decide)
        obtain ⟨b131, g131⟩ : ∃ z, z = T97.heap.size := ⟨_, rfl⟩
        rw [← g131] at B131 D131 st131
        have ne132 := Nat.ne_of_lt (Nat.lt_of_lt_of_le Ec97.lt (Nat.le_of_eq g131.symm))
        have ge133 := Nat.le_trans Zs99 (Nat.le_of_eq g131.symm)
        have Ex134 := Ec97.ext E131
        have Fl135 := Fc0_97.ext E131
        have Fl136 := Fc1_97.ext E131
        have Zs137 := Nat.le_trans Zs99 E131.1
        have Fl138 : Fld Z h131 b131 "com/example/ennead/ennead/model/Hex" "column" "I" (.int (0 : Int32)) := D131 (Or.inr (hw _ (List.mem_of_getElem? (i := 15) rfl))) (ty := .int) (by decide)
        have Fl139 : Fld Z h131 b131 "com/example/ennead/ennead/model/Hex" "row" "I" (.int (0 : Int32)) := D131 (Or.inr (hw _ (List.mem_of_getElem? (i := 17) rfl))) (ty := .int) (by decide)
        have Ol140 := Ol100.ext E131
        have A141 : ∀ t, Steps p.tables e below (T131.setTop (mkF m 135 #[.val (.int x1), .val (.int x2), .val (.int x3), .val (.int x4), .val (.int x5), .val (.ref b90), .val (.int (x5 &&& (7 : Int32))), .val (.int u128), .val (.int u129), .unset, .unset] [(.int u129), (.int u128), (.ref b131), (.ref b131)])) t → Steps p.tables e below (s₁.setTop (entryFrame m #[(.int x1), (.int x2), (.int x3), (.int x4), (.int x5)] maxLocals)) t := by
          intro t k
          refine A130 _ ?_
          refine st131 _ ?_
          show Steps p.tables e below (T131.setTop (mkF m 130 #[.val (.int x1), .val (.int x2), .val (.int x3), .val (.int x4), .val (.int x5), .val (.ref b90), .val (.int (x5 &&& (7 : Int32))), .val (.int u128), .val (.int u129), .unset, .unset] [(.ref b131)])) _
          refine XS.dup X131.here hx rfl (hb hby at_130) rfl rfl ?_
          show Steps p.tables e below (T131.setTop (mkF m 131 #[.val (.int x1), .val (.int x2), .val (.int x3), .val (.int x4), .val (.int x5), .val (.ref b90), .val (.int (x5 &&& (7 : Int32))), .val (.int u128), .val (.int u129), .unset, .unset] [(.ref b131), (.ref b131)])) _
          refine XS.iload X131.here hx rfl (hb hby at_131) rfl ?_
          show Steps p.tables e below (T131.setTop (mkF m 133 #[.val (.int x1), .val (.int x2), .val (.int x3), .val (.int x4), .val (.int x5), .val (.ref b90), .val (.int (x5 &&& (7 : Int32))), .val (.int u128), .val (.int u129), .unset, .unset] [(.int u128), (.ref b131), (.ref b131)])) _
          refine XS.iload X131.here hx rfl (hb hby at_133) rfl ?_
          show Steps p.tables e below (T131.setTop (mkF m 135 #[.val (.int x1), .val (.int x2), .val (.int x3), .val (.int x4), .val (.int x5), .val (.ref b90), .val (.int (x5 &&& (7 : Int32))), .val (.int u128), .val (.int u129), .unset, .unset] [(.int u129), (.int u128), (.ref b131), (.ref b131)])) _
          exact k
        obtain ⟨_, _, ⟨T142, L142, k142, n142⟩, -, X142, ⟨Lc142, hQ142, l142, y142, z142⟩, st142⟩ := X131.specialBack hx (y := (⟨"com/example/ennead/ennead/model/Hex", "<init>", "(II)V"⟩ : MethodName)) rfl hown (mvT hZ (hw _ (List.mem_of_getElem? (i := 3) rfl))) (mvT hZ (hw _ (List.mem_of_getElem? (i := 4) rfl))) (mvT hZ (hw _ (List.mem_of_getElem? (i := 5) rfl))) (by decide) (backOf (W := 1) (own_hex l Z a0 hw [] b131 u128 u129 h131 n0 Zs137 B131 ge133 Fl138 Fl139 ) hZ (hw _ (List.mem_of_getElem? (i := 5) rfl)) (hw _ (List.mem_of_getElem? (i := 2) rfl)) (by decide) (by decide)) (g := (mkF m 135 #[.val (.int x1), .val (.int x2), .val (.int x3), .val (.int x4), .val (.int x5), .val (.ref b90), .val (.int (x5 &&& (7 : Int32))), .val (.int u128), .val (.int u129), .unset, .unset] [(.int u129), (.int u128), (.ref b131), (.ref b131)])) rfl (by rw [hml]; rfl) (Steps.refl _) (a := b131) (argsL := [(.int u128), (.int u129)]) (rest := [(.ref b131)]) (lenOf own_pd2 rfl) rfl (by show 2 * 0 + _ ≤ _; exact Nat.le_of_eq rfl) (hb hby at_135) (fun _ _ => ⟨rfl, e131, (by decide : 2 + 0 ≤ _), (by decide : 4 + 0 ≤ _)⟩)
        dsimp only [Pt.U, Pt.locs, Pt.cells, Pt.slots] at X142 l142 y142 z142 st142 hQ142
        subst l142 y142 z142
        obtain ⟨rfl, Nq142, K142, Ec142, Fc0_142, Fc1_142⟩ := hQ142
        have Nf143 := Fr.app Nf98 Nq142
        have Ex144 := Ex134.keep K142
        have Fl145 := Fl135.keep K142 (ninS ne132 nin0)
        have Fl146 := Fl136.keep K142 (ninS ne132 nin0)
        have Zs147 := Nat.le_trans Zs137 K142.1
        have Ol148 := Ol140.keep K142 (allS ge133 all0)
        have A149 : ∀ t, Steps p.tables e below (T142.setTop (mkF m 143 #[.val (.int x1), .val (.int x2), .val (.int x3), .val (.int x4), .val (.int x5), .val (.ref b90), .val (.int (x5 &&& (7 : Int32))), .val (.int u128), .val (.int u129), .val (.ref b131), .unset] [(.int u128), (.int x1)])) t → Steps p.tables e below (s₁.setTop (entryFrame m #[(.int x1), (.int x2), (.int x3), (.int x4), (.int x5)] maxLocals)) t := by
          intro t k
          refine A141 _ ?_
          refine st142.trans ?_
          show Steps p.tables e below (T142.setTop (mkF m 138 #[.val (.int x1), .val (.int x2), .val (.int x3), .val (.int x4), .val (.int x5), .val (.ref b90), .val (.int (x5 &&& (7 : Int32))), .val (.int u128), .val (.int u129), .unset, .unset] [(.ref b131)])) _
          refine XS.astore X142.here hx rfl (hb hby at_138) rfl rfl (l' := #[.val (.int x1), .val (.int x2), .val (.int x3), .val (.int x4), .val (.int x5), .val (.ref b90), .val (.int (x5 &&& (7 : Int32))), .val (.int u128), .val (.int u129), .val (.ref b131), .unset]) rfl ?_
          show Steps p.tables e below (T142.setTop (mkF m 140 #[.val (.int x1), .val (.int x2), .val (.int x3), .val (.int x4), .val (.int x5), .val (.ref b90), .val (.int (x5 &&& (7 : Int32))), .val (.int u128), .val (.int u129), .val (.ref b131), .unset] [])) _
          refine XS.iloadN X142.here hx rfl (hb hby at_140) rfl ?_
          show Steps p.tables e below (T142.setTop (mkF m 141 #[.val (.int x1), .val (.int x2), .val (.int x3), .val (.int x4), .val (.int x5), .val (.ref b90), .val (.int (x5 &&& (7 : Int32))), .val (.int u128), .val (.int u129), .val (.ref b131), .unset] [(.int x1)])) _
          refine XS.iload X142.here hx rfl (hb hby at_141) rfl ?_
          show Steps p.tables e below (T142.setTop (mkF m 143 #[.val (.int x1), .val (.int x2), .val (.int x3), .val (.int x4), .val (.int x5), .val (.ref b90), .val (.int (x5 &&& (7 : Int32))), .val (.int u128), .val (.int u129), .val (.ref b131), .unset] [(.int u128), (.int x1)])) _
          exact k
        obtain ⟨u152, hu152⟩ : ∃ u : Int32, u = (if x1 = u128 then (if x2 = u129 then (1 : Int32) else (0 : Int32)) else (0 : Int32)) := ⟨_, rfl⟩
        have A153 : ∀ t, Steps p.tables e below (T142.setTop (mkF m 157 #[.val (.int x1), .val (.int x2), .val (.int x3), .val (.int x4), .val (.int x5), .val (.ref b90), .val (.int (x5 &&& (7 : Int32))), .val (.int u128), .val (.int u129), .val (.ref b131), .unset] [(.int u152)])) t → Steps p.tables e below (s₁.setTop (entryFrame m #[(.int x1), (.int x2), (.int x3), (.int x4), (.int x5)] maxLocals)) t := by
          intro t k
          refine A149 _ ?_
          by_cases hj150 : x1 = u128
          · refine XS.icmpNo X142.here hx rfl (hb hby at_143) rfl (teq hj150).2 ?_
            show Steps p.tables e below (T142.setTop (mkF m 146 #[.val (.int x1), .val (.int x2), .val (.int x3), .val (.int x4), .val (.int x5), .val (.ref b90), .val (.int (x5 &&& (7 : Int32))), .val (.int u128), .val (.int u129), .val (.ref b131), .unset] [])) _
            refine XS.iloadN X142.here hx rfl (hb hby at_146) rfl ?_
            show Steps p.tables e below (T142.setTop (mkF m 147 #[.val (.int x1), .val (.int x2), .val (.int x3), .val (.int x4), .val (.int x5), .val (.ref b90), .val (.int (x5 &&& (7 : Int32))), .val (.int u128), .val (.int u129), .val (.ref b131), .unset] [(.int x2)])) _
            refine XS.iload X142.here hx rfl (hb hby at_147) rfl ?_
            show Steps p.tables e below (T142.setTop (mkF m 149 #[.val (.int x1), .val (.int x2), .val (.int x3), .val (.int x4), .val (.int x5), .val (.ref b90), .val (.int (x5 &&& (7 : Int32))), .val (.int u128), .val (.int u129), .val (.ref b131), .unset] [(.int u129), (.int x2)])) _
            by_cases hj151 : x2 = u129
            · refine XS.icmpNo X142.here hx rfl (hb hby at_149) rfl (teq hj151).2 ?_
              show Steps p.tables e below (T142.setTop (mkF m 152 #[.val (.int x1), .val (.int x2), .val (.int x3), .val (.int x4), .val (.int x5), .val (.ref b90), .val (.int (x5 &&& (7 : Int32))), .val (.int u128), .val (.int u129), .val (.ref b131), .unset] [])) _
              refine XS.iconst X142.here hx rfl (hb hby at_152) ?_
              show Steps p.tables e below (T142.setTop (mkF m 153 #[.val (.int x1), .val (.int x2), .val (.int x3), .val (.int x4), .val (.int x5), .val (.ref b90), .val (.int (x5 &&& (7 : Int32))), .val (.int u128), .val (.int u129), .val (.ref b131), .unset] [(.int (1 : Int32))])) _
              refine XS.goto X142.here hx rfl (pc0 := 153) (pc' := 157) rfl (hb hby at_153) (by decide) (by decide) ?_
              show Steps p.tables e below (T142.setTop (mkF m 157 #[.val (.int x1), .val (.int x2), .val (.int x3), .val (.int x4), .val (.int x5), .val (.ref b90), .val (.int (x5 &&& (7 : Int32))), .val (.int u128), .val (.int u129), .val (.ref b131), .unset] [(.int (1 : Int32))])) _
              have qu152 : u152 = (1 : Int32) := by rw [hu152]; simp [hj150, hj151]
              rw [qu152] at k
              exact k
            · refine XS.icmpYes X142.here hx rfl (pc0 := 149) (pc' := 156) rfl (hb hby at_149) rfl (feq hj151).2 (by decide) (by decide) ?_
              show Steps p.tables e below (T142.setTop (mkF m 156 #[.val (.int x1), .val (.int x2), .val (.int x3), .val (.int x4), .val (.int x5), .val (.ref b90), .val (.int (x5 &&& (7 : Int32))), .val (.int u128), .val (.int u129), .val (.ref b131), .unset] [])) _
              refine XS.iconst X142.here hx rfl (hb hby at_156) ?_
              show Steps p.tables e below (T142.setTop (mkF m 157 #[.val (.int x1), .val (.int x2), .val (.int x3), .val (.int x4), .val (.int x5), .val (.ref b90), .val (.int (x5 &&& (7 : Int32))), .val (.int u128), .val (.int u129), .val (.ref b131), .unset] [(.int (0 : Int32))])) _
              have qu152 : u152 = (0 : Int32) := by rw [hu152]; simp [hj150, hj151]
              rw [qu152] at k
              exact k
          · refine XS.icmpYes X142.here hx rfl (pc0 := 143) (pc' := 156) rfl (hb hby at_143) rfl (feq hj150).2 (by decide) (by decide) ?_
            show Steps p.tables e below (T142.setTop (mkF m 156 #[.val (.int x1), .val (.int x2), .val (.int x3), .val (.int x4), .val (.int x5), .val (.ref b90), .val (.int (x5 &&& (7 : Int32))), .val (.int u128), .val (.int u129), .val (.ref b131), .unset] [])) _
            refine XS.iconst X142.here hx rfl (hb hby at_156) ?_
            show Steps p.tables e below (T142.setTop (mkF m 157 #[.val (.int x1), .val (.int x2), .val (.int x3), .val (.int x4), .val (.int x5), .val (.ref b90), .val (.int (x5 &&& (7 : Int32))), .val (.int u128), .val (.int u129), .val (.ref b131), .unset] [(.int (0 : Int32))])) _
            have qu152 : u152 = (0 : Int32) := by rw [hu152]; simp [hj150]
            rw [qu152] at k
            exact k
        have A154 : ∀ t, Steps p.tables e below (T142.setTop (mkF m 163 #[.val (.int x1), .val (.int x2), .val (.int x3), .val (.int x4), .val (.int x5), .val (.ref b90), .val (.int (x5 &&& (7 : Int32))), .val (.int u128), .val (.int u129), .val (.ref b131), .val (.int u152)] [(.ref b131), (.ref b90)])) t → Steps p.tables e below (s₁.setTop (entryFrame m #[(.int x1), (.int x2), (.int x3), (.int x4), (.int x5)] maxLocals)) t := by
          intro t k
          refine A153 _ ?_
          refine XS.istore X142.here hx rfl (hb hby at_157) rfl (l' := #[.val (.int x1), .val (.int x2), .val (.int x3), .val (.int x4), .val (.int x5), .val (.ref b90), .val (.int (x5 &&& (7 : Int32))), .val (.int u128), .val (.int u129), .val (.ref b131), .val (.int u152)]) rfl ?_
          show Steps p.tables e below (T142.setTop (mkF m 159 #[.val (.int x1), .val (.int x2), .val (.int x3), .val (.int x4), .val (.int x5), .val (.ref b90), .val (.int (x5 &&& (7 : Int32))), .val (.int u128), .val (.int u129), .val (.ref b131), .val (.int u152)] [])) _
          refine XS.aload X142.here hx rfl (hb hby at_159) rfl rfl ?_
          show Steps p.tables e below (T142.setTop (mkF m 161 #[.val (.int x1), .val (.int x2), .val (.int x3), .val (.int x4), .val (.int x5), .val (.ref b90), .val (.int (x5 &&& (7 : Int32))), .val (.int u128), .val (.int u129), .val (.ref b131), .val (.int u152)] [(.ref b90)])) _
          refine XS.aload X142.here hx rfl (hb hby at_161) rfl rfl ?_
          show Steps p.tables e below (T142.setTop (mkF m 163 #[.val (.int x1), .val (.int x2), .val (.int x3), .val (.int x4), .val (.int x5), .val (.ref b90), .val (.int (x5 &&& (7 : Int32))), .val (.int u128), .val (.int u129), .val (.ref b131), .val (.int u152)] [(.ref b131), (.ref b90)])) _
          exact k
        obtain ⟨cq155, kq155, q155a, q155b, q155c⟩ := isOf hZ rfl Ex144
        obtain ⟨_, _, ⟨T155, L155, k155, n155⟩, -, X155, ⟨Lc155, hQ155, l155, y155, z155⟩, st155⟩ := X142.virtualBack hx (y := (⟨"com/example/ennead/ennead/model/Hex", "equals", "(Ljava/lang/Object;)Z"⟩ : MethodName)) (z := (⟨"com/example/ennead/ennead/model/Hex", "equals", "(Ljava/lang/Object;)Z"⟩ : MethodName)) hown (mvT hZ (hw _ (List.mem_of_getElem? (i := 18) rfl))) (mvT hZ (hw _ (List.mem_of_getElem? (i := 19) rfl))) (notFace_of_selects (args := #[]) (mvT hZ (hw _ (List.mem_of_getElem? (i := 21) rfl)))) (mvT hZ (hw _ (List.mem_of_getElem? (i := 21) rfl))) (mvT hZ (hw _ (List.mem_of_getElem? (i := 20) rfl))) (by decide) (backOf (W := 0) (own_eqS l Z a0 hw [] b90 b131 x1 x2 u128 u129 T142.heap n0 Zs147 Ec142 Fl145 Fc0_142 Fl146 Fc1_142) hZ (hw _ (List.mem_of_getElem? (i := 22) rfl)) (hw _ (List.mem_of_getElem? (i := 2) rfl)) (by decide) (by decide)) q155a q155c (g := (mkF m 163 #[.val (.int x1), .val (.int x2), .val (.int x3), .val (.int x4), .val (.int x5), .val (.ref b90), .val (.int (x5 &&& (7 : Int32))), .val (.int u128), .val (.int u129), .val (.ref b131), .val (.int u152)] [(.ref b131), (.ref b90)])) rfl (by rw [hml]; rfl) (Steps.refl _) (argsL := [(.ref b131)]) (rest := []) (lenOf own_pd3 rfl) rfl (by show 2 * 0 + _ ≤ _; exact Nat.le_of_eq rfl) (hb hby at_163) (fun _ _ => ⟨rfl, rfl, (by decide : 2 + 0 ≤ _), (by decide : 4 + 0 ≤ _)⟩)
        dsimp only [Pt.U, Pt.locs, Pt.cells, Pt.slots] at X155 l155 y155 z155 st155 hQ155
        subst l155 y155 z155
        obtain ⟨rfl, Nq155, eh155⟩ := hQ155
        have Nf156 := Fr.app Nf143 Nq155
        have A157 : ∀ t, Steps p.tables e below (T155.setTop (mkF m 168 #[.val (.int x1), .val (.int x2), .val (.int x3), .val (.int x4), .val (.int x5), .val (.ref b90), .val (.int (x5 &&& (7 : Int32))), .val (.int u128), .val (.int u129), .val (.ref b131), .val (.int u152)] [(.int u152), (.int (own_eqv b90 b131 x1 x2 u128 u129))])) t → Steps p.tables e below (s₁.setTop (entryFrame m #[(.int x1), (.int x2), (.int x3), (.int x4), (.int x5)] maxLocals)) t := by
          intro t k
          refine A154 _ ?_
          refine st155.trans ?_
          show Steps p.tables e below (T155.setTop (mkF m 166 #[.val (.int x1), .val (.int x2), .val (.int x3), .val (.int x4), .val (.int x5), .val (.ref b90), .val (.int (x5 &&& (7 : Int32))), .val (.int u128), .val (.int u129), .val (.ref b131), .val (.int u152)] [(.int (own_eqv b90 b131 x1 x2 u128 u129))])) _
          refine XS.iload X155.here hx rfl (hb hby at_166) rfl ?_
          show Steps p.tables e below (T155.setTop (mkF m 168 #[.val (.int x1), .val (.int x2), .val (.int x3), .val (.int x4), .val (.int x5), .val (.ref b90), .val (.int (x5 &&& (7 : Int32))), .val (.int u128), .val (.int u129), .val (.ref b131), .val (.int u152)] [(.int u152), (.int (own_eqv b90 b131 x1 x2 u128 u129))])) _
          exact k
        have hne : b90 ≠ b131 := ne132
        have hq1 : (own_eqv b90 b131 x1 x2 u128 u129) = u152 := by rw [hu152]; simp only [own_eqv, if_neg hne]
        have A158 : ∀ t, Steps p.tables e below (T155.setTop (mkF m 175 #[.val (.int x1), .val (.int x2), .val (.int x3), .val (.int x4), .val (.int x5), .val (.ref b90), .val (.int (x5 &&& (7 : Int32))), .val (.int u128), .val (.int u129), .val (.ref b131), .val (.int u152)] [(.ref b90), (.ref b131)])) t → Steps p.tables e below (s₁.setTop (entryFrame m #[(.int x1), (.int x2), (.int x3), (.int x4), (.int x5)] maxLocals)) t := by
          intro t k
          refine A157 _ ?_
          refine XS.icmpNo X155.here hx rfl (hb hby at_168) rfl (teq hq1).2 ?_
          show Steps p.tables e below (T155.setTop (mkF m 171 #[.val (.int x1), .val (.int x2), .val (.int x3), .val (.int x4), .val (.int x5), .val (.ref b90), .val (.int (x5 &&& (7 : Int32))), .val (.int u128), .val (.int u129), .val (.ref b131), .val (.int u152)] [])) _
          refine XS.aload X155.here hx rfl (hb hby at_171) rfl rfl ?_
          show Steps p.tables e below (T155.setTop (mkF m 173 #[.val (.int x1), .val (.int x2), .val (.int x3), .val (.int x4), .val (.int x5), .val (.ref b90), .val (.int (x5 &&& (7 : Int32))), .val (.int u128), .val (.int u129), .val (.ref b131), .val (.int u152)] [(.ref b131)])) _
          refine XS.aload X155.here hx rfl (hb hby at_173) rfl rfl ?_
          show Steps p.tables e below (T155.setTop (mkF m 175 #[.val (.int x1), .val (.int x2), .val (.int x3), .val (.int x4), .val (.int x5), .val (.ref b90), .val (.int (x5 &&& (7 : Int32))), .val (.int u128), .val (.int u129), .val (.ref b131), .val (.int u152)] [(.ref b90), (.ref b131)])) _
          exact k
        obtain ⟨cq159, kq159, q159a, q159b, q159c⟩ := isOf hZ eh155 Ec142
        obtain ⟨_, _, ⟨T159, L159, k159, n159⟩, -, X159, ⟨Lc159, hQ159, l159, y159, z159⟩, st159⟩ := X155.virtualBack hx (y := (⟨"com/example/ennead/ennead/model/Hex", "equals", "(Ljava/lang/Object;)Z"⟩ : MethodName)) (z := (⟨"com/example/ennead/ennead/model/Hex", "equals", "(Ljava/lang/Object;)Z"⟩ : MethodName)) hown (mvT hZ (hw _ (List.mem_of_getElem? (i := 18) rfl))) (mvT hZ (hw _ (List.mem_of_getElem? (i := 19) rfl))) (notFace_of_selects (args := #[]) (mvT hZ (hw _ (List.mem_of_getElem? (i := 21) rfl)))) (mvT hZ (hw _ (List.mem_of_getElem? (i := 21) rfl))) (mvT hZ (hw _ (List.mem_of_getElem? (i := 20) rfl))) (by decide) (backOf (W := 0) (own_eqS l Z a0 hw [] b131 b90 u128 u129 x1 x2 T142.heap n0 Zs147 Ex144 Fc0_142 Fl145 Fc1_142 Fl146) hZ (hw _ (List.mem_of_getElem? (i := 22) rfl)) (hw _ (List.mem_of_getElem? (i := 2) rfl)) (by decide) (by decide)) q159a q159c (g := (mkF m 175 #[.val (.int x1), .val (.int x2), .val (.int x3), .val (.int x4), .val (.int x5), .val (.ref b90), .val (.int (x5 &&& (7 : Int32))), .val (.int u128), .val (.int u129), .val (.ref b131), .val (.int u152)] [(.ref b90), (.ref b131)])) rfl (by rw [hml]; rfl) (Steps.refl _) (argsL := [(.ref b90)]) (rest := []) (lenOf own_pd3 rfl) rfl (by show 2 * 0 + _ ≤ _; exact Nat.le_of_eq rfl) (hb hby at_175) (fun _ _ => ⟨rfl, eh155, (by decide : 2 + 0 ≤ _), (by decide : 4 + 0 ≤ _)⟩)
        dsimp only [Pt.U, Pt.locs, Pt.cells, Pt.slots] at X159 l159 y159 z159 st159 hQ159
        subst l159 y159 z159
        obtain ⟨rfl, Nq159, eh159⟩ := hQ159
        have Nf160 := Fr.app Nf156 Nq159
        have A161 : ∀ t, Steps p.tables e below (T159.setTop (mkF m 180 #[.val (.int x1), .val (.int x2), .val (.int x3), .val (.int x4), .val (.int x5), .val (.ref b90), .val (.int (x5 &&& (7 : Int32))), .val (.int u128), .val (.int u129), .val (.ref b131), .val (.int u152)] [(.int u152), (.int (own_eqv b131 b90 u128 u129 x1 x2))])) t → Steps p.tables e below (s₁.setTop (entryFrame m #[(.int x1), (.int x2), (.int x3), (.int x4), (.int x5)] maxLocals)) t := by
          intro t k
          refine A158 _ ?_
          refine st159.trans ?_
          show Steps p.tables e below (T159.setTop (mkF m 178 #[.val (.int x1), .val (.int x2), .val (.int x3), .val (.int x4), .val (.int x5), .val (.ref b90), .val (.int (x5 &&& (7 : Int32))), .val (.int u128), .val (.int u129), .val (.ref b131), .val (.int u152)] [(.int (own_eqv b131 b90 u128 u129 x1 x2))])) _
          refine XS.iload X159.here hx rfl (hb hby at_178) rfl ?_
          show Steps p.tables e below (T159.setTop (mkF m 180 #[.val (.int x1), .val (.int x2), .val (.int x3), .val (.int x4), .val (.int x5), .val (.ref b90), .val (.int (x5 &&& (7 : Int32))), .val (.int u128), .val (.int u129), .val (.ref b131), .val (.int u152)] [(.int u152), (.int (own_eqv b131 b90 u128 u129 x1 x2))])) _
          exact k
        have hq2 : (own_eqv b131 b90 u128 u129 x1 x2) = u152 := by rw [hu152]; simp only [own_eqv, if_neg (Ne.symm hne), @eq_comm Int32 u128 x1, @eq_comm Int32 u129 x2]
        have A162 : ∀ t, Steps p.tables e below (T159.setTop (mkF m 188 #[.val (.int x1), .val (.int x2), .val (.int x3), .val (.int x4), .val (.int x5), .val (.ref b90), .val (.int (x5 &&& (7 : Int32))), .val (.int u128), .val (.int u129), .val (.ref b131), .val (.int u152)] [(.int (1 : Int32))])) t → Steps p.tables e below (s₁.setTop (entryFrame m #[(.int x1), (.int x2), (.int x3), (.int x4), (.int x5)] maxLocals)) t := by
          intro t k
          refine A161 _ ?_
          refine XS.icmpNo X159.here hx rfl (hb hby at_180) rfl (teq hq2).2 ?_
          show Steps p.tables e below (T159.setTop (mkF m 183 #[.val (.int x1), .val (.int x2), .val (.int x3), .val (.int x4), .val (.int x5), .val (.ref b90), .val (.int (x5 &&& (7 : Int32))), .val (.int u128), .val (.int u129), .val (.ref b131), .val (.int u152)] [])) _
          refine XS.iconst X159.here hx rfl (hb hby at_183) ?_
          show Steps p.tables e below (T159.setTop (mkF m 184 #[.val (.int x1), .val (.int x2), .val (.int x3), .val (.int x4), .val (.int x5), .val (.ref b90), .val (.int (x5 &&& (7 : Int32))), .val (.int u128), .val (.int u129), .val (.ref b131), .val (.int u152)] [(.int (1 : Int32))])) _
          refine XS.goto X159.here hx rfl (pc0 := 184) (pc' := 188) rfl (hb hby at_184) (by decide) (by decide) ?_
          show Steps p.tables e below (T159.setTop (mkF m 188 #[.val (.int x1), .val (.int x2), .val (.int x3), .val (.int x4), .val (.int x5), .val (.ref b90), .val (.int (x5 &&& (7 : Int32))), .val (.int u128), .val (.int u129), .val (.ref b131), .val (.int u152)] [(.int (1 : Int32))])) _
          exact k
        obtain ⟨fs, hr, hrun, hended, hW, hsame⟩ := X159.leave (v := some (.int (1 : Int32))) (fun h => by rw [Bd.returns] at h; cases h)
        refine ⟨_, _, A162 _ ?_, hrun, hended, _, _, rfl, ?_, ⟨_, rfl⟩, hW, hsame.mono (by decide) (by decide)⟩
        · exact retN X159 hx (t := .boolean) Bd.returns (by simp) (hb hby at_188) hr
        · show own_Q0 Z x1 x2 x3 x4 x5 h0 n0 _ T159.heap _
          rw [eh159]
          exact ⟨rfl, Nf160⟩
set_option maxRecDepth 65536 in
set_option maxHeartbeats 40000000 in
theorem comes_1 {Post : Tables → Env → Array Value → State → Outcome → State → Prop} (hpost : ∀ tb e args s v u, (limb_1_1.after args s (.returned v) u = true ∧ limb_1_2.after args s (.returned v) u = true ∧ True) → FrameEnd s (.returned v) u (Jvm.fieldLocs frame_1_writes args s ++ Jvm.arrayLocs frame_1_arrays args s ++ Jvm.staticLocs frame_1_statics s) 16 128 → Post tb e args s (.returned v) u) :
    ArmFor flags0 classFile x code maxLocals ret World_1 tables_1 room_1 Calls_1 rest_1 Pre_1 Post := by
  intro l hfl _ _ p e ha hc hk s m args below hf hA hF happ hP
  obtain ⟨hcalls, hrest, hpre⟩ := hP
  obtain ⟨-, -, -, hnamed, -, -, -, hat⟩ := (Spec.applies_iff hf).mp happ
  obtain ⟨hg, hn⟩ := and_e (Cond.before_iff.mp (show (Jvm.Cond.and given_1 narrow_1).before args s = true from hpre))
  obtain ⟨hcount, hg⟩ := and_e hg
  obtain ⟨ga0, hg⟩ := and_e hg
  obtain ⟨ga1, hg⟩ := and_e hg
  obtain ⟨ga2, hg⟩ := and_e hg
  obtain ⟨ga3, hg⟩ := and_e hg
  have ga4 := hg
  obtain ⟨w0, w1, w2, w3, w4, rfl⟩ : ∃ w0 w1 w2 w3 w4 : Value, args = #[w0, w1, w2, w3, w4] := by
    have hs : args.size = 5 := by simpa [Cond.value, given_1] using hcount
    obtain ⟨L⟩ := args
    match L, hs with
    | [w0, w1, w2, w3, w4], _ => exact ⟨w0, w1, w2, w3, w4, rfl⟩
  have hw := fun d (hd : d ∈ tables_1) => atoms_spec (ws := Jvm.Cond.code x code maxLocals ret :: tables_1) hat d (List.mem_cons_of_mem _ hd)
  have hfit : Fit s := fun {y c} hc i hi => by
    obtain ⟨ha, rfl⟩ := Array.getElem?_eq_some_iff.mp hc
    have q := List.all_eq_true.mp ((Array.all_eq_true_iff_forall_mem.mp hF) _ (Array.getElem_mem ha)) i (List.mem_range.mpr hi)
    simpa [Array.getElem?_eq_getElem hi] using q
  obtain ⟨hsets, hown0⟩ := atoms_of _ (rest_1_c_eq ▸ (show rest_1_c.before _ s = true from hrest))
  obtain ⟨i0, ei0⟩ := is_v ga0
  obtain rfl : w0 = (.int i0) := Option.some.inj ei0
  obtain ⟨i1, ei1⟩ := is_v ga1
  obtain rfl : w1 = (.int i1) := Option.some.inj ei1
  obtain ⟨i2, ei2⟩ := is_v ga2
  obtain rfl : w2 = (.int i2) := Option.some.inj ei2
  obtain ⟨i3, ei3⟩ := is_v ga3
  obtain rfl : w3 = (.int i3) := Option.some.inj ei3
  obtain ⟨i4, ei4⟩ := is_v ga4
  obtain rfl : w4 = (.int i4) := Option.some.inj ei4
  have SH := Sta.start (Cond.eq_int (hsets _ (List.mem_of_getElem? (i := 3) rfl)) rfl) (Or.inl (hsets _ (List.mem_of_getElem? (i := 1) rfl)))
  obtain ⟨vc, evc⟩ := arr_v (Cond.before_iff.mp (hsets _ (List.mem_of_getElem? (i := 4) rfl)))
  obtain ⟨cc, AC⟩ := Arr.start evc (Cond.before_iff.mp (hsets _ (List.mem_of_getElem? (i := 4) rfl)))
  have SC := Sta.start evc (Or.inr ⟨(hw _ (List.mem_of_getElem? (i := 30) rfl)), (hsets _ (List.mem_of_getElem? (i := 2) rfl))⟩)
  have hal := (State.Warmed39.refl s).alike
  have hatc := Arr.fin hal AC
  obtain ⟨hl31, hl256⟩ := own_len evc hatc (Cond.eq_int (hsets _ (List.mem_of_getElem? (i := 6) rfl)) rfl)
  have sz : cc.slots.size = 256 := by
    have q := congrArg Int32.toInt hl256
    rw [len_toInt hl31, show (256 : Int32).toInt = 256 from rfl] at q
    omega
  have hel : ∀ j : Int32, ¬ (j < 0 ∨ cc.slots.size ≤ j.toNatClampNeg) → ∃ r : Addr, cc.slots[j.toNatClampNeg]? = some (.ref r) ∧ Exa s s.heap r "java/lang/Integer" := by
    intro j hj
    have hj0 : ¬ j < 0 := fun q => hj (Or.inl q)
    have hs2 : j.toNatClampNeg < cc.slots.size := Nat.lt_of_not_le fun y => hj (Or.inr y)
    have h1 := (and_e (Cond.all_elim evc hatc (Cond.before_iff.mp (hsets _ (List.mem_of_getElem? (i := 7) rfl))) _ hs2)).1
    obtain ⟨r, er⟩ := exa_v h1
    exact ⟨r, (elem_f (a := Term.index 0) (by exact evc) (idx_at hj0) hatc hj0).symm.trans er, exa_at er h1⟩
  obtain ⟨n, o, h1, h2, h3, _, L, rfl, ⟨rfl, N⟩, hq⟩ := own_law l s _ hw tables_1 i0 i1 i2 i3 i4 vc cc s.heap s.heap.size (Nat.le_refl _) SH SC AC sz hel (Old.start s) p e ha hc hk s m _ below hf ((Spec.applies_iff_loose hf).mp happ).1 ⟨rfl, State.Warmed39.refl s, rfl⟩ trivial
  refine ⟨n, _, h1, h2, h3, hpost _ _ _ _ _ _ ⟨Cond.after_iff.mpr rfl, Cond.after_iff.mpr (eq_i res_at (Term.int_eval (1)) rfl), trivial⟩ ⟨hq.1, hq.2.1, (hq.2.2.sift fun y hy => Or.inr (N y hy)).mono (by decide) (by decide)⟩⟩
theorem main_1_1 : Claimed_1_1 := comes_1 fun _ _ _ _ _ _ h hF => ⟨h.1, hF⟩
theorem main_1_2 : Claimed_1_2 := comes_1 fun _ _ _ _ _ _ h hF => ⟨h.2.1, hF⟩
end Jvm.Pilot.@@N@@
namespace Jvm.Pilot.@@N@@
open Jvm Jvm.ClassFile Sem Op Lib Jvm.Free Jvm.Stand Jvm.Pilot.@@N@@.Jvm.D
/-! MADE BY PROGRAM (witnessworld.py) out of the Statement's table words and the real class files: 17 classes; the members and pool entries that the words name. The judged class is class 1, her method 1. -/
namespace start1
open Jvm.ClassFile
def u (s : String) : CpInfo := .utf8 (stringToUtf16 s)
/-- a pool by its gaps: so many unusable entries, then the entry; so many at the end -/
def gap : Nat → List CpInfo → List CpInfo
  | 0, r => r
  | n + 1, r => .unusable :: gap n r
def poolList (es : List (Nat × CpInfo)) (last : Nat) : List CpInfo := es.foldr (fun e r => gap e.1 (e.2 :: r)) (gap last [])
def pool (es : List (Nat × CpInfo)) (last : Nat) : Array CpInfo := ⟨poolList es last⟩
def fileOf (pool : Array CpInfo) (this : Nat) (attrs : Array Attribute := #[]) (ms : Array MethodInfo := #[]) (fl : Nat := 33) (sup : Nat := 0) (ifs : Array Nat := #[]) (fds : Array FieldInfo := #[]) : ClassFile where
  minorVersion := 0
  majorVersion := 65
  constantPool := pool
  accessFlags := fl
  thisClass := this
  superClass := sup
  interfaces := ifs
  fields := fds
  methods := ms
  attributes := attrs
def plain (name : String) (sup : Option ClassId) : Class where
  name := name
  kind := .ordinary
  loader := none
  accessFlags := 33
  super := sup
  interfaces := #[]
  cf := none
  fields := #[]
  methods := #[]
  instanceTypes := #[]
  staticTypes := #[]
  resolved := #[]
  callSites := []
  init := .initialized
  statics := none
  mirror := none

def pool0 : Array CpInfo := pool [(5, u "<init>"), (0, u "()V"), (1, .class_ 10), (1, u "java/lang/Object")] 113

def k0c0 : Code := { maxStack := 0, maxLocals := 1, code := object_method_1_code, exceptionTable := #[], attributes := #[] }
def k0m0 : Method := { name := "<init>", desc := "()V", sig := { parameters := [], returnType := none }, accessFlags := 1, code := some k0c0 }
/-- java/lang/Object -/
def k0 : Class := { plain "java/lang/Object" none with
  accessFlags := 33
  interfaces := #[]
  cf := some (fileOf pool0 8 #[] #[{ accessFlags := 1, nameIndex := 5, descriptorIndex := 6, attributes := #[] }] 33 0 #[] #[])
  fields := #[]
  methods := #[k0m0]
  instanceTypes := #[]
  staticTypes := #[]
  resolved := Array.replicate 124 none
  statics := none }

def pool1 : Array CpInfo := pool [(2, .class_ 4), (1, u "java/lang/Object"), (0, u "<init>"), (0, u "()V"), (0, .class_ 8), (0, u "com/example/ennead/ennead/model/Hex"), (0, .methodref 7 10), (0, .nameAndType 5 11), (0, u "(II)V"), (0, .methodref 7 13), (0, .nameAndType 14 15), (0, u "equals"), (0, u "(Ljava/lang/Object;)Z"), (0, .methodref 17 18), (0, .class_ 19), (0, .nameAndType 20 21), (0, u "java/lang/Integer"), (0, u "valueOf"), (0, u "(I)Ljava/lang/Integer;"), (0, .class_ 23), (0, u "com/example/ennead/ennead/model/HexEqualsPinLaw"), (2, u "law"), (0, u "(IIIII)Z")] 3

def k1m0 : Method := { name := "<init>", desc := "()V", sig := { parameters := [], returnType := none }, accessFlags := 1, code := none }
def k1c1 : Code := { maxStack := 4, maxLocals := 11, code := code, exceptionTable := #[], attributes := #[] }
def k1m1 : Method := { name := "law", desc := "(IIIII)Z", sig := { parameters := [.int, .int, .int, .int, .int], returnType := some .boolean }, accessFlags := 9, code := some k1c1 }
/-- com/example/ennead/ennead/model/HexEqualsPinLaw -/
def k1 : Class := { plain "com/example/ennead/ennead/model/HexEqualsPinLaw" (some 0) with
  accessFlags := 49
  interfaces := #[]
  cf := some (fileOf pool1 22 #[] #[{ accessFlags := 1, nameIndex := 5, descriptorIndex := 6, attributes := #[] }, { accessFlags := 9, nameIndex := 26, descriptorIndex := 27, attributes := #[] }] 49 2 #[] #[])
  fields := #[]
  methods := #[k1m0, k1m1]
  instanceTypes := #[]
  staticTypes := #[]
  resolved := Array.replicate 31 none
  statics := none }

def pool2 : Array CpInfo := pool [(1, .methodref 2 3), (0, .class_ 4), (0, .nameAndType 5 6), (0, u "java/lang/Object"), (0, u "<init>"), (0, u "()V"), (0, .class_ 8), (0, u "java/lang/Record")] 13

def k2c0 : Code := { maxStack := 1, maxLocals := 1, code := jdk_30_method_1_code, exceptionTable := #[], attributes := #[] }
def k2m0 : Method := { name := "<init>", desc := "()V", sig := { parameters := [], returnType := none }, accessFlags := 4, code := some k2c0 }
/-- java/lang/Record -/
def k2 : Class := { plain "java/lang/Record" (some 0) with
  accessFlags := 1057
  interfaces := #[]
  cf := some (fileOf pool2 7 #[] #[{ accessFlags := 4, nameIndex := 5, descriptorIndex := 6, attributes := #[] }] 1057 2 #[] #[])
  fields := #[]
  methods := #[k2m0]
  instanceTypes := #[]
  staticTypes := #[]
  resolved := Array.replicate 22 none
  statics := none }

def pool3 : Array CpInfo := pool [(1, .class_ 2), (0, u "java/lang/Comparable"), (0, .class_ 4), (0, u "java/lang/Object")] 7

/-- java/lang/Comparable -/
def k3 : Class := { plain "java/lang/Comparable" (some 0) with
  accessFlags := 1537
  interfaces := #[]
  cf := some (fileOf pool3 1 #[] #[] 1537 3 #[] #[])
  fields := #[]
  methods := #[]
  instanceTypes := #[]
  staticTypes := #[]
  resolved := Array.replicate 12 none
  statics := none }

def pool4 : Array CpInfo := pool [(1, .methodref 2 3), (0, .class_ 4), (0, .nameAndType 5 6), (0, u "java/lang/Record"), (0, u "<init>"), (0, u "()V"), (0, .fieldref 8 9), (0, .class_ 10), (0, .nameAndType 11 12), (0, u "com/example/ennead/ennead/model/Hex"), (0, u "column"), (0, u "I"), (0, .fieldref 8 14), (0, .nameAndType 15 12), (0, u "row"), (6, u "(II)V"), (20, .class_ 44), (0, u "java/lang/Comparable"), (10, u "equals"), (0, u "(Ljava/lang/Object;)Z")] 23

def k4c0 : Code := { maxStack := 2, maxLocals := 3, code := prog_9_method_1_code, exceptionTable := #[], attributes := #[] }
def k4m0 : Method := { name := "<init>", desc := "(II)V", sig := { parameters := [.int, .int], returnType := none }, accessFlags := 1, code := some k4c0 }
def k4c1 : Code := { maxStack := 2, maxLocals := 3, code := prog_9_method_6_code, exceptionTable := #[], attributes := #[] }
def k4m1 : Method := { name := "equals", desc := "(Ljava/lang/Object;)Z", sig := { parameters := [(.object "java/lang/Object")], returnType := some .boolean }, accessFlags := 1, code := some k4c1 }
/-- com/example/ennead/ennead/model/Hex -/
def k4 : Class := { plain "com/example/ennead/ennead/model/Hex" (some 2) with
  accessFlags := 49
  interfaces := #[3]
  cf := some (fileOf pool4 8 #[] #[{ accessFlags := 1, nameIndex := 5, descriptorIndex := 22, attributes := #[] }, { accessFlags := 1, nameIndex := 55, descriptorIndex := 56, attributes := #[] }] 49 2 #[43] #[{ accessFlags := 18, nameIndex := 11, descriptorIndex := 12, attributes := #[] }, { accessFlags := 18, nameIndex := 15, descriptorIndex := 12, attributes := #[] }])
  fields := #[{ name := "column", type := .int, accessFlags := 18, slot := 0, constantValue := 0 }, { name := "row", type := .int, accessFlags := 18, slot := 1, constantValue := 0 }]
  methods := #[k4m0, k4m1]
  instanceTypes := #[.int, .int]
  staticTypes := #[]
  resolved := Array.replicate 80 none
  statics := none }

def pool5 : Array CpInfo := pool [(1, .class_ 2), (0, u "java/io/Serializable"), (0, .class_ 4), (0, u "java/lang/Object")] 2

/-- java/io/Serializable -/
def k5 : Class := { plain "java/io/Serializable" (some 0) with
  accessFlags := 1537
  interfaces := #[]
  cf := some (fileOf pool5 1 #[] #[] 1537 3 #[] #[])
  fields := #[]
  methods := #[]
  instanceTypes := #[]
  staticTypes := #[]
  resolved := Array.replicate 7 none
  statics := none }

def pool6 : Array CpInfo := pool [(1, .methodref 2 3), (0, .class_ 4), (0, .nameAndType 5 6), (0, u "java/lang/Object"), (0, u "<init>"), (0, u "()V"), (1, .class_ 10), (1, u "java/lang/Number"), (2, .class_ 14), (0, u "java/io/Serializable"), (0, u "serialVersionUID"), (0, u "J")] 20

def k6c0 : Code := { maxStack := 1, maxLocals := 1, code := jdk_18_method_1_code, exceptionTable := #[], attributes := #[] }
def k6m0 : Method := { name := "<init>", desc := "()V", sig := { parameters := [], returnType := none }, accessFlags := 1, code := some k6c0 }
/-- java/lang/Number -/
def k6 : Class := { plain "java/lang/Number" (some 0) with
  accessFlags := 1057
  interfaces := #[5]
  cf := some (fileOf pool6 8 #[] #[{ accessFlags := 1, nameIndex := 5, descriptorIndex := 6, attributes := #[] }] 1057 2 #[13] #[{ accessFlags := 26, nameIndex := 15, descriptorIndex := 16, attributes := #[] }])
  fields := #[{ name := "serialVersionUID", type := .long, accessFlags := 26, slot := 0, constantValue := 0 }]
  methods := #[k6m0]
  instanceTypes := #[]
  staticTypes := #[.long]
  resolved := Array.replicate 37 none
  statics := none }

def pool7 : Array CpInfo := pool [(1, .class_ 2), (0, u "java/lang/constant/Constable"), (0, .class_ 4), (0, u "java/lang/Object")] 6

/-- java/lang/constant/Constable -/
def k7 : Class := { plain "java/lang/constant/Constable" (some 0) with
  accessFlags := 1537
  interfaces := #[]
  cf := some (fileOf pool7 1 #[] #[] 1537 3 #[] #[])
  fields := #[]
  methods := #[]
  instanceTypes := #[]
  staticTypes := #[]
  resolved := Array.replicate 11 none
  statics := none }

def pool8 : Array CpInfo := pool [(1, .class_ 2), (0, u "java/lang/constant/ConstantDesc"), (0, .class_ 4), (0, u "java/lang/Object")] 32

/-- java/lang/constant/ConstantDesc -/
def k8 : Class := { plain "java/lang/constant/ConstantDesc" (some 0) with
  accessFlags := 1537
  interfaces := #[]
  cf := some (fileOf pool8 1 #[] #[] 1537 3 #[] #[])
  fields := #[]
  methods := #[]
  instanceTypes := #[]
  staticTypes := #[]
  resolved := Array.replicate 37 none
  statics := none }

def pool9 : Array CpInfo := pool [(1, .class_ 2), (0, u "java/lang/Integer"), (16, u "digits"), (0, u "[C"), (46, u "<init>"), (17, u "DigitOnes"), (0, u "[B"), (2, u "DigitTens"), (10, .nameAndType 67 101), (0, u "()V"), (85, u "valueOf"), (0, u "(I)Ljava/lang/Integer;"), (0, .class_ 190), (0, u "java/lang/Integer$IntegerCache"), (0, .fieldref 189 192), (0, .nameAndType 193 194), (0, u "high"), (0, u "I"), (0, .fieldref 189 196), (0, .nameAndType 197 198), (0, u "cache"), (0, u "[Ljava/lang/Integer;"), (0, .methodref 1 200), (0, .nameAndType 67 201), (0, u "(I)V"), (0, .methodref 203 100), (0, .class_ 204), (0, u "java/lang/Number"), (0, .fieldref 1 206), (0, .nameAndType 207 194), (0, u "value"), (94, u "TYPE"), (0, u "Ljava/lang/Class;"), (0, .class_ 305), (0, u "java/lang/Comparable"), (0, .class_ 307), (0, u "java/lang/constant/Constable"), (0, .class_ 309), (0, u "java/lang/constant/ConstantDesc"), (0, u "MIN_VALUE"), (1, u "MAX_VALUE"), (3, u "SIZE"), (1, u "BYTES"), (1, u "serialVersionUID"), (0, u "J")] 131

def k9c0 : Code := { maxStack := 3, maxLocals := 1, code := jdk_33_method_22_code, exceptionTable := #[], attributes := #[] }
def k9m0 : Method := { name := "valueOf", desc := "(I)Ljava/lang/Integer;", sig := { parameters := [.int], returnType := some (.object "java/lang/Integer") }, accessFlags := 9, code := some k9c0 }
def k9c1 : Code := { maxStack := 2, maxLocals := 2, code := jdk_33_method_23_code, exceptionTable := #[], attributes := #[] }
def k9m1 : Method := { name := "<init>", desc := "(I)V", sig := { parameters := [.int], returnType := none }, accessFlags := 1, code := some k9c1 }
/-- java/lang/Integer -/
def k9 : Class := { plain "java/lang/Integer" (some 6) with
  accessFlags := 49
  interfaces := #[3, 7, 8]
  cf := some (fileOf pool9 1 #[.nestMembers #[189]] #[{ accessFlags := 9, nameIndex := 187, descriptorIndex := 188, attributes := #[] }, { accessFlags := 1, nameIndex := 67, descriptorIndex := 201, attributes := #[] }] 49 203 #[304, 306, 308] #[{ accessFlags := 25, nameIndex := 310, descriptorIndex := 194, attributes := #[] }, { accessFlags := 25, nameIndex := 312, descriptorIndex := 194, attributes := #[] }, { accessFlags := 25, nameIndex := 302, descriptorIndex := 303, attributes := #[] }, { accessFlags := 24, nameIndex := 19, descriptorIndex := 20, attributes := #[] }, { accessFlags := 24, nameIndex := 89, descriptorIndex := 86, attributes := #[] }, { accessFlags := 24, nameIndex := 85, descriptorIndex := 86, attributes := #[] }, { accessFlags := 18, nameIndex := 207, descriptorIndex := 194, attributes := #[] }, { accessFlags := 25, nameIndex := 316, descriptorIndex := 194, attributes := #[] }, { accessFlags := 25, nameIndex := 318, descriptorIndex := 194, attributes := #[] }, { accessFlags := 26, nameIndex := 320, descriptorIndex := 321, attributes := #[] }])
  fields := #[{ name := "MIN_VALUE", type := .int, accessFlags := 25, slot := 0, constantValue := 0 }, { name := "MAX_VALUE", type := .int, accessFlags := 25, slot := 1, constantValue := 0 }, { name := "TYPE", type := (.object "java/lang/Class"), accessFlags := 25, slot := 2, constantValue := 0 }, { name := "digits", type := (.array .char), accessFlags := 24, slot := 3, constantValue := 0 }, { name := "DigitTens", type := (.array .byte), accessFlags := 24, slot := 4, constantValue := 0 }, { name := "DigitOnes", type := (.array .byte), accessFlags := 24, slot := 5, constantValue := 0 }, { name := "value", type := .int, accessFlags := 18, slot := 0, constantValue := 0 }, { name := "SIZE", type := .int, accessFlags := 25, slot := 6, constantValue := 0 }, { name := "BYTES", type := .int, accessFlags := 25, slot := 7, constantValue := 0 }, { name := "serialVersionUID", type := .long, accessFlags := 26, slot := 8, constantValue := 0 }]
  methods := #[k9m0, k9m1]
  instanceTypes := #[.int]
  staticTypes := #[.int, .int, (.object "java/lang/Class"), (.array .char), (.array .byte), (.array .byte), .int, .int, .long]
  resolved := Array.replicate 453 none
  statics := none }

def pool10 : Array CpInfo := pool [(2, .class_ 4), (1, u "java/lang/Object"), (0, u "<init>"), (0, u "()V"), (0, .class_ 8), (0, u "java/lang/Integer"), (7, .class_ 18), (1, u "java/lang/Integer$IntegerCache"), (0, u "$assertionsDisabled"), (0, u "Z"), (26, u "high"), (0, u "I"), (8, u "archivedCache"), (0, u "[Ljava/lang/Integer;"), (12, u "cache"), (0, u "low")] 27

def k10m0 : Method := { name := "<init>", desc := "()V", sig := { parameters := [], returnType := none }, accessFlags := 2, code := none }
/-- java/lang/Integer$IntegerCache -/
def k10 : Class := { plain "java/lang/Integer$IntegerCache" (some 0) with
  accessFlags := 48
  interfaces := #[]
  cf := some (fileOf pool10 16 #[.nestHost 7] #[{ accessFlags := 2, nameIndex := 5, descriptorIndex := 6, attributes := #[] }] 48 2 #[] #[{ accessFlags := 24, nameIndex := 72, descriptorIndex := 48, attributes := #[] }, { accessFlags := 24, nameIndex := 47, descriptorIndex := 48, attributes := #[] }, { accessFlags := 24, nameIndex := 71, descriptorIndex := 58, attributes := #[] }, { accessFlags := 8, nameIndex := 57, descriptorIndex := 58, attributes := #[] }, { accessFlags := 4120, nameIndex := 19, descriptorIndex := 20, attributes := #[] }])
  fields := #[{ name := "low", type := .int, accessFlags := 24, slot := 0, constantValue := 0 }, { name := "high", type := .int, accessFlags := 24, slot := 1, constantValue := 0 }, { name := "cache", type := (.array (.object "java/lang/Integer")), accessFlags := 24, slot := 2, constantValue := 0 }, { name := "archivedCache", type := (.array (.object "java/lang/Integer")), accessFlags := 8, slot := 3, constantValue := 0 }, { name := "$assertionsDisabled", type := .boolean, accessFlags := 4120, slot := 4, constantValue := 0 }]
  methods := #[k10m0]
  instanceTypes := #[]
  staticTypes := #[.int, .int, (.array (.object "java/lang/Integer")), (.array (.object "java/lang/Integer")), .boolean]
  resolved := Array.replicate 100 none
  statics := some 0 }

def pool11 : Array CpInfo := pool [(1, u "java/lang/Cloneable"), (0, .class_ 1), (0, u "java/lang/Object"), (0, .class_ 3)] 3

/-- java/lang/Cloneable -/
def k11 : Class := { plain "java/lang/Cloneable" (some 0) with
  accessFlags := 1537
  interfaces := #[]
  cf := some (fileOf pool11 2 #[] #[] 1537 4 #[] #[])
  fields := #[]
  methods := #[]
  instanceTypes := #[]
  staticTypes := #[]
  resolved := Array.replicate 8 none
  statics := none }

/-- the primitive byte -/
def k12 : Class := { plain "byte" none with kind := .primitive 'B', accessFlags := 0x411 }
/-- [B -/
def k13 : Class := { plain "[B" (some 0) with kind := .array 12 .byte, interfaces := #[11, 5], accessFlags := 1041 }

/-- the primitive int -/
def k14 : Class := { plain "int" none with kind := .primitive 'I', accessFlags := 0x411 }
/-- [I -/
def k15 : Class := { plain "[I" (some 0) with kind := .array 14 .int, interfaces := #[11, 5], accessFlags := 1041 }

/-- [Ljava/lang/Integer; -/
def k16 : Class := { plain "[Ljava/lang/Integer;" (some 0) with kind := .array 9 (.object "java/lang/Integer"), interfaces := #[11, 5], accessFlags := 1041 }

def heap : Heap := #[{ cls := 10, slots := #[.int 0, .int 127, .ref 1, .null, .int 0], vm := .statics 10 },
  { cls := 16, slots := #[.ref 2, .ref 3, .ref 4, .ref 5, .ref 6, .ref 7, .ref 8, .ref 9, .ref 10, .ref 11, .ref 12, .ref 13, .ref 14, .ref 15, .ref 16, .ref 17, .ref 18, .ref 19, .ref 20, .ref 21, .ref 22, .ref 23, .ref 24, .ref 25, .ref 26, .ref 27, .ref 28, .ref 29, .ref 30, .ref 31, .ref 32, .ref 33, .ref 34, .ref 35, .ref 36, .ref 37, .ref 38, .ref 39, .ref 40, .ref 41, .ref 42, .ref 43, .ref 44, .ref 45, .ref 46, .ref 47, .ref 48, .ref 49, .ref 50, .ref 51, .ref 52, .ref 53, .ref 54, .ref 55, .ref 56, .ref 57, .ref 58, .ref 59, .ref 60, .ref 61, .ref 62, .ref 63, .ref 64, .ref 65, .ref 66, .ref 67, .ref 68, .ref 69, .ref 70, .ref 71, .ref 72, .ref 73, .ref 74, .ref 75, .ref 76, .ref 77, .ref 78, .ref 79, .ref 80, .ref 81, .ref 82, .ref 83, .ref 84, .ref 85, .ref 86, .ref 87, .ref 88, .ref 89, .ref 90, .ref 91, .ref 92, .ref 93, .ref 94, .ref 95, .ref 96, .ref 97, .ref 98, .ref 99, .ref 100, .ref 101, .ref 102, .ref 103, .ref 104, .ref 105, .ref 106, .ref 107, .ref 108, .ref 109, .ref 110, .ref 111, .ref 112, .ref 113, .ref 114, .ref 115, .ref 116, .ref 117, .ref 118, .ref 119, .ref 120, .ref 121, .ref 122, .ref 123, .ref 124, .ref 125, .ref 126, .ref 127, .ref 128, .ref 129, .ref 130, .ref 131, .ref 132, .ref 133, .ref 134, .ref 135, .ref 136, .ref 137, .ref 138, .ref 139, .ref 140, .ref 141, .ref 142, .ref 143, .ref 144, .ref 145, .ref 146, .ref 147, .ref 148, .ref 149, .ref 150, .ref 151, .ref 152, .ref 153, .ref 154, .ref 155, .ref 156, .ref 157, .ref 158, .ref 159, .ref 160, .ref 161, .ref 162, .ref 163, .ref 164, .ref 165, .ref 166, .ref 167, .ref 168, .ref 169, .ref 170, .ref 171, .ref 172, .ref 173, .ref 174, .ref 175, .ref 176, .ref 177, .ref 178, .ref 179, .ref 180, .ref 181, .ref 182, .ref 183, .ref 184, .ref 185, .ref 186, .ref 187, .ref 188, .ref 189, .ref 190, .ref 191, .ref 192, .ref 193, .ref 194, .ref 195, .ref 196, .ref 197, .ref 198, .ref 199, .ref 200, .ref 201, .ref 202, .ref 203, .ref 204, .ref 205, .ref 206, .ref 207, .ref 208, .ref 209, .ref 210, .ref 211, .ref 212, .ref 213, .ref 214, .ref 215, .ref 216, .ref 217, .ref 218, .ref 219, .ref 220, .ref 221, .ref 222, .ref 223, .ref 224, .ref 225, .ref 226, .ref 227, .ref 228, .ref 229, .ref 230, .ref 231, .ref 232, .ref 233, .ref 234, .ref 235, .ref 236, .ref 237, .ref 238, .ref 239, .ref 240, .ref 241, .ref 242, .ref 243, .ref 244, .ref 245, .ref 246, .ref 247, .ref 248, .ref 249, .ref 250, .ref 251, .ref 252, .ref 253, .ref 254, .ref 255, .ref 256, .ref 257], vm := .none },
  { cls := 9, slots := #[.int (-128)], vm := .none },
  { cls := 9, slots := #[.int (-127)], vm := .none },
  { cls := 9, slots := #[.int (-126)], vm := .none },
  { cls := 9, slots := #[.int (-125)], vm := .none },
  { cls := 9, slots := #[.int (-124)], vm := .none },
  { cls := 9, slots := #[.int (-123)], vm := .none },
  { cls := 9, slots := #[.int (-122)], vm := .none },
  { cls := 9, slots := #[.int (-121)], vm := .none },
  { cls := 9, slots := #[.int (-120)], vm := .none },
  { cls := 9, slots := #[.int (-119)], vm := .none },
  { cls := 9, slots := #[.int (-118)], vm := .none },
  { cls := 9, slots := #[.int (-117)], vm := .none },
  { cls := 9, slots := #[.int (-116)], vm := .none },
  { cls := 9, slots := #[.int (-115)], vm := .none },
  { cls := 9, slots := #[.int (-114)], vm := .none },
  { cls := 9, slots := #[.int (-113)], vm := .none },
  { cls := 9, slots := #[.int (-112)], vm := .none },
  { cls := 9, slots := #[.int (-111)], vm := .none },
  { cls := 9, slots := #[.int (-110)], vm := .none },
  { cls := 9, slots := #[.int (-109)], vm := .none },
  { cls := 9, slots := #[.int (-108)], vm := .none },
  { cls := 9, slots := #[.int (-107)], vm := .none },
  { cls := 9, slots := #[.int (-106)], vm := .none },
  { cls := 9, slots := #[.int (-105)], vm := .none },
  { cls := 9, slots := #[.int (-104)], vm := .none },
  { cls := 9, slots := #[.int (-103)], vm := .none },
  { cls := 9, slots := #[.int (-102)], vm := .none },
  { cls := 9, slots := #[.int (-101)], vm := .none },
  { cls := 9, slots := #[.int (-100)], vm := .none },
  { cls := 9, slots := #[.int (-99)], vm := .none },
  { cls := 9, slots := #[.int (-98)], vm := .none },
  { cls := 9, slots := #[.int (-97)], vm := .none },
  { cls := 9, slots := #[.int (-96)], vm := .none },
  { cls := 9, slots := #[.int (-95)], vm := .none },
  { cls := 9, slots := #[.int (-94)], vm := .none },
  { cls := 9, slots := #[.int (-93)], vm := .none },
  { cls := 9, slots := #[.int (-92)], vm := .none },
  { cls := 9, slots := #[.int (-91)], vm := .none },
  { cls := 9, slots := #[.int (-90)], vm := .none },
  { cls := 9, slots := #[.int (-89)], vm := .none },
  { cls := 9, slots := #[.int (-88)], vm := .none },
  { cls := 9, slots := #[.int (-87)], vm := .none },
  { cls := 9, slots := #[.int (-86)], vm := .none },
  { cls := 9, slots := #[.int (-85)], vm := .none },
  { cls := 9, slots := #[.int (-84)], vm := .none },
  { cls := 9, slots := #[.int (-83)], vm := .none },
  { cls := 9, slots := #[.int (-82)], vm := .none },
  { cls := 9, slots := #[.int (-81)], vm := .none },
  { cls := 9, slots := #[.int (-80)], vm := .none },
  { cls := 9, slots := #[.int (-79)], vm := .none },
  { cls := 9, slots := #[.int (-78)], vm := .none },
  { cls := 9, slots := #[.int (-77)], vm := .none },
  { cls := 9, slots := #[.int (-76)], vm := .none },
  { cls := 9, slots := #[.int (-75)], vm := .none },
  { cls := 9, slots := #[.int (-74)], vm := .none },
  { cls := 9, slots := #[.int (-73)], vm := .none },
  { cls := 9, slots := #[.int (-72)], vm := .none },
  { cls := 9, slots := #[.int (-71)], vm := .none },
  { cls := 9, slots := #[.int (-70)], vm := .none },
  { cls := 9, slots := #[.int (-69)], vm := .none },
  { cls := 9, slots := #[.int (-68)], vm := .none },
  { cls := 9, slots := #[.int (-67)], vm := .none },
  { cls := 9, slots := #[.int (-66)], vm := .none },
  { cls := 9, slots := #[.int (-65)], vm := .none },
  { cls := 9, slots := #[.int (-64)], vm := .none },
  { cls := 9, slots := #[.int (-63)], vm := .none },
  { cls := 9, slots := #[.int (-62)], vm := .none },
  { cls := 9, slots := #[.int (-61)], vm := .none },
  { cls := 9, slots := #[.int (-60)], vm := .none },
  { cls := 9, slots := #[.int (-59)], vm := .none },
  { cls := 9, slots := #[.int (-58)], vm := .none },
  { cls := 9, slots := #[.int (-57)], vm := .none },
  { cls := 9, slots := #[.int (-56)], vm := .none },
  { cls := 9, slots := #[.int (-55)], vm := .none },
  { cls := 9, slots := #[.int (-54)], vm := .none },
  { cls := 9, slots := #[.int (-53)], vm := .none },
  { cls := 9, slots := #[.int (-52)], vm := .none },
  { cls := 9, slots := #[.int (-51)], vm := .none },
  { cls := 9, slots := #[.int (-50)], vm := .none },
  { cls := 9, slots := #[.int (-49)], vm := .none },
  { cls := 9, slots := #[.int (-48)], vm := .none },
  { cls := 9, slots := #[.int (-47)], vm := .none },
  { cls := 9, slots := #[.int (-46)], vm := .none },
  { cls := 9, slots := #[.int (-45)], vm := .none },
  { cls := 9, slots := #[.int (-44)], vm := .none },
  { cls := 9, slots := #[.int (-43)], vm := .none },
  { cls := 9, slots := #[.int (-42)], vm := .none },
  { cls := 9, slots := #[.int (-41)], vm := .none },
  { cls := 9, slots := #[.int (-40)], vm := .none },
  { cls := 9, slots := #[.int (-39)], vm := .none },
  { cls := 9, slots := #[.int (-38)], vm := .none },
  { cls := 9, slots := #[.int (-37)], vm := .none },
  { cls := 9, slots := #[.int (-36)], vm := .none },
  { cls := 9, slots := #[.int (-35)], vm := .none },
  { cls := 9, slots := #[.int (-34)], vm := .none },
  { cls := 9, slots := #[.int (-33)], vm := .none },
  { cls := 9, slots := #[.int (-32)], vm := .none },
  { cls := 9, slots := #[.int (-31)], vm := .none },
  { cls := 9, slots := #[.int (-30)], vm := .none },
  { cls := 9, slots := #[.int (-29)], vm := .none },
  { cls := 9, slots := #[.int (-28)], vm := .none },
  { cls := 9, slots := #[.int (-27)], vm := .none },
  { cls := 9, slots := #[.int (-26)], vm := .none },
  { cls := 9, slots := #[.int (-25)], vm := .none },
  { cls := 9, slots := #[.int (-24)], vm := .none },
  { cls := 9, slots := #[.int (-23)], vm := .none },
  { cls := 9, slots := #[.int (-22)], vm := .none },
  { cls := 9, slots := #[.int (-21)], vm := .none },
  { cls := 9, slots := #[.int (-20)], vm := .none },
  { cls := 9, slots := #[.int (-19)], vm := .none },
  { cls := 9, slots := #[.int (-18)], vm := .none },
  { cls := 9, slots := #[.int (-17)], vm := .none },
  { cls := 9, slots := #[.int (-16)], vm := .none },
  { cls := 9, slots := #[.int (-15)], vm := .none },
  { cls := 9, slots := #[.int (-14)], vm := .none },
  { cls := 9, slots := #[.int (-13)], vm := .none },
  { cls := 9, slots := #[.int (-12)], vm := .none },
  { cls := 9, slots := #[.int (-11)], vm := .none },
  { cls := 9, slots := #[.int (-10)], vm := .none },
  { cls := 9, slots := #[.int (-9)], vm := .none },
  { cls := 9, slots := #[.int (-8)], vm := .none },
  { cls := 9, slots := #[.int (-7)], vm := .none },
  { cls := 9, slots := #[.int (-6)], vm := .none },
  { cls := 9, slots := #[.int (-5)], vm := .none },
  { cls := 9, slots := #[.int (-4)], vm := .none },
  { cls := 9, slots := #[.int (-3)], vm := .none },
  { cls := 9, slots := #[.int (-2)], vm := .none },
  { cls := 9, slots := #[.int (-1)], vm := .none },
  { cls := 9, slots := #[.int 0], vm := .none },
  { cls := 9, slots := #[.int 1], vm := .none },
  { cls := 9, slots := #[.int 2], vm := .none },
  { cls := 9, slots := #[.int 3], vm := .none },
  { cls := 9, slots := #[.int 4], vm := .none },
  { cls := 9, slots := #[.int 5], vm := .none },
  { cls := 9, slots := #[.int 6], vm := .none },
  { cls := 9, slots := #[.int 7], vm := .none },
  { cls := 9, slots := #[.int 8], vm := .none },
  { cls := 9, slots := #[.int 9], vm := .none },
  { cls := 9, slots := #[.int 10], vm := .none },
  { cls := 9, slots := #[.int 11], vm := .none },
  { cls := 9, slots := #[.int 12], vm := .none },
  { cls := 9, slots := #[.int 13], vm := .none },
  { cls := 9, slots := #[.int 14], vm := .none },
  { cls := 9, slots := #[.int 15], vm := .none },
  { cls := 9, slots := #[.int 16], vm := .none },
  { cls := 9, slots := #[.int 17], vm := .none },
  { cls := 9, slots := #[.int 18], vm := .none },
  { cls := 9, slots := #[.int 19], vm := .none },
  { cls := 9, slots := #[.int 20], vm := .none },
  { cls := 9, slots := #[.int 21], vm := .none },
  { cls := 9, slots := #[.int 22], vm := .none },
  { cls := 9, slots := #[.int 23], vm := .none },
  { cls := 9, slots := #[.int 24], vm := .none },
  { cls := 9, slots := #[.int 25], vm := .none },
  { cls := 9, slots := #[.int 26], vm := .none },
  { cls := 9, slots := #[.int 27], vm := .none },
  { cls := 9, slots := #[.int 28], vm := .none },
  { cls := 9, slots := #[.int 29], vm := .none },
  { cls := 9, slots := #[.int 30], vm := .none },
  { cls := 9, slots := #[.int 31], vm := .none },
  { cls := 9, slots := #[.int 32], vm := .none },
  { cls := 9, slots := #[.int 33], vm := .none },
  { cls := 9, slots := #[.int 34], vm := .none },
  { cls := 9, slots := #[.int 35], vm := .none },
  { cls := 9, slots := #[.int 36], vm := .none },
  { cls := 9, slots := #[.int 37], vm := .none },
  { cls := 9, slots := #[.int 38], vm := .none },
  { cls := 9, slots := #[.int 39], vm := .none },
  { cls := 9, slots := #[.int 40], vm := .none },
  { cls := 9, slots := #[.int 41], vm := .none },
  { cls := 9, slots := #[.int 42], vm := .none },
  { cls := 9, slots := #[.int 43], vm := .none },
  { cls := 9, slots := #[.int 44], vm := .none },
  { cls := 9, slots := #[.int 45], vm := .none },
  { cls := 9, slots := #[.int 46], vm := .none },
  { cls := 9, slots := #[.int 47], vm := .none },
  { cls := 9, slots := #[.int 48], vm := .none },
  { cls := 9, slots := #[.int 49], vm := .none },
  { cls := 9, slots := #[.int 50], vm := .none },
  { cls := 9, slots := #[.int 51], vm := .none },
  { cls := 9, slots := #[.int 52], vm := .none },
  { cls := 9, slots := #[.int 53], vm := .none },
  { cls := 9, slots := #[.int 54], vm := .none },
  { cls := 9, slots := #[.int 55], vm := .none },
  { cls := 9, slots := #[.int 56], vm := .none },
  { cls := 9, slots := #[.int 57], vm := .none },
  { cls := 9, slots := #[.int 58], vm := .none },
  { cls := 9, slots := #[.int 59], vm := .none },
  { cls := 9, slots := #[.int 60], vm := .none },
  { cls := 9, slots := #[.int 61], vm := .none },
  { cls := 9, slots := #[.int 62], vm := .none },
  { cls := 9, slots := #[.int 63], vm := .none },
  { cls := 9, slots := #[.int 64], vm := .none },
  { cls := 9, slots := #[.int 65], vm := .none },
  { cls := 9, slots := #[.int 66], vm := .none },
  { cls := 9, slots := #[.int 67], vm := .none },
  { cls := 9, slots := #[.int 68], vm := .none },
  { cls := 9, slots := #[.int 69], vm := .none },
  { cls := 9, slots := #[.int 70], vm := .none },
  { cls := 9, slots := #[.int 71], vm := .none },
  { cls := 9, slots := #[.int 72], vm := .none },
  { cls := 9, slots := #[.int 73], vm := .none },
  { cls := 9, slots := #[.int 74], vm := .none },
  { cls := 9, slots := #[.int 75], vm := .none },
  { cls := 9, slots := #[.int 76], vm := .none },
  { cls := 9, slots := #[.int 77], vm := .none },
  { cls := 9, slots := #[.int 78], vm := .none },
  { cls := 9, slots := #[.int 79], vm := .none },
  { cls := 9, slots := #[.int 80], vm := .none },
  { cls := 9, slots := #[.int 81], vm := .none },
  { cls := 9, slots := #[.int 82], vm := .none },
  { cls := 9, slots := #[.int 83], vm := .none },
  { cls := 9, slots := #[.int 84], vm := .none },
  { cls := 9, slots := #[.int 85], vm := .none },
  { cls := 9, slots := #[.int 86], vm := .none },
  { cls := 9, slots := #[.int 87], vm := .none },
  { cls := 9, slots := #[.int 88], vm := .none },
  { cls := 9, slots := #[.int 89], vm := .none },
  { cls := 9, slots := #[.int 90], vm := .none },
  { cls := 9, slots := #[.int 91], vm := .none },
  { cls := 9, slots := #[.int 92], vm := .none },
  { cls := 9, slots := #[.int 93], vm := .none },
  { cls := 9, slots := #[.int 94], vm := .none },
  { cls := 9, slots := #[.int 95], vm := .none },
  { cls := 9, slots := #[.int 96], vm := .none },
  { cls := 9, slots := #[.int 97], vm := .none },
  { cls := 9, slots := #[.int 98], vm := .none },
  { cls := 9, slots := #[.int 99], vm := .none },
  { cls := 9, slots := #[.int 100], vm := .none },
  { cls := 9, slots := #[.int 101], vm := .none },
  { cls := 9, slots := #[.int 102], vm := .none },
  { cls := 9, slots := #[.int 103], vm := .none },
  { cls := 9, slots := #[.int 104], vm := .none },
  { cls := 9, slots := #[.int 105], vm := .none },
  { cls := 9, slots := #[.int 106], vm := .none },
  { cls := 9, slots := #[.int 107], vm := .none },
  { cls := 9, slots := #[.int 108], vm := .none },
  { cls := 9, slots := #[.int 109], vm := .none },
  { cls := 9, slots := #[.int 110], vm := .none },
  { cls := 9, slots := #[.int 111], vm := .none },
  { cls := 9, slots := #[.int 112], vm := .none },
  { cls := 9, slots := #[.int 113], vm := .none },
  { cls := 9, slots := #[.int 114], vm := .none },
  { cls := 9, slots := #[.int 115], vm := .none },
  { cls := 9, slots := #[.int 116], vm := .none },
  { cls := 9, slots := #[.int 117], vm := .none },
  { cls := 9, slots := #[.int 118], vm := .none },
  { cls := 9, slots := #[.int 119], vm := .none },
  { cls := 9, slots := #[.int 120], vm := .none },
  { cls := 9, slots := #[.int 121], vm := .none },
  { cls := 9, slots := #[.int 122], vm := .none },
  { cls := 9, slots := #[.int 123], vm := .none },
  { cls := 9, slots := #[.int 124], vm := .none },
  { cls := 9, slots := #[.int 125], vm := .none },
  { cls := 9, slots := #[.int 126], vm := .none },
  { cls := 9, slots := #[.int 127], vm := .none }]
def classes : Array Class := #[k0, k1, k2, k3, k4, k5, k6, k7, k8, k9, k10, k11, k12, k13, k14, k15, k16]
def interned : List (Array UInt16 × Addr) := []
def slotsUsed : Nat := 517
def theMethod : MethodId := ⟨1, 1⟩
def args0 : Array Value := #[.int 1, .int 2, .int 3, .int 4, .int 5]
def aboutOver (below : List Frame) : State where
  vm := { classes := classes, interned := interned.toArray }
  heap := heap
  slotsUsed := slotsUsed
  threads := #[{ frames := .invoking theMethod args0 :: below }]
def below0 : List Frame := [.native { method := ⟨0, 0⟩, args := #[] }]
def about1 : State := aboutOver below0
def p0 : Program := .bare "" "" ""
def e0 : Env := launch0.env 0 0 0
theorem w_frames : about1.frames = Frame.invoking theMethod args0 :: below0 := rfl
set_option maxRecDepth 65536 in
theorem w_args : argsFit about1.vm theMethod args0 = true := by decide +kernel
set_option maxRecDepth 65536 in
theorem w_heap : heapFits about1 = true := by decide +kernel
set_option maxRecDepth 65536 in
theorem w_runnable : about1.curStatus? = some .runnable := by decide +kernel
set_option maxRecDepth 65536 in
theorem w_alone : about1.alone = true := by decide +kernel
set_option maxRecDepth 65536 in
theorem w_named : about1.methodNamed? x = some theMethod := by decide +kernel
set_option maxRecDepth 65536 in
theorem w_hears : about1.hears theMethod below0 = true := by decide +kernel
set_option maxRecDepth 65536 in
theorem w_ripe : about1.ripe theMethod args0 below0 = true := by decide +kernel
theorem w_running : about1.status = .running := rfl
set_option maxRecDepth 65536 in
theorem w_room : about1.hasRoom e0.platform room_1 = true :=
  launch0.hasRoom_least _ room_1 (by decide +kernel) (by decide +kernel) (by decide +kernel) (by decide +kernel) (by decide +kernel) (by decide +kernel)
theorem allAtoms_all (ts : List Jvm.Cond) (a : Array Jvm.Value) (st : Jvm.State) : (allAtoms ts).before a st = ts.all (fun c => c.before a st) := by
  induction ts with
  | nil => rfl
  | cons c t ih =>
    show (Jvm.Cond.and c (allAtoms t)).before a st = _
    rw [Jvm.Cond.before_and, ih, List.all_cons]
def words1 : List Jvm.Cond := Jvm.Cond.code x code maxLocals ret :: tables_1
/-- a 'code' word, met by the world's own term for the bytes: nothing is compared byte by byte -/
theorem code_word {y : MethodName} {bytes : ByteArray} {mx : Nat} {rt : Option FieldType} {a : Array Value} {s : State} {m : MethodId} {meth : Method} {c : Code} (h1 : s.methodNamed? y = some m) (h2 : s.vm.method? m = some meth) (h3 : meth.code = some c) (h4 : c.code = bytes)
    (h5 : (c.maxLocals == mx && c.exceptionTable.isEmpty && decide (c.maxStack ≤ mostOperands) && decide (meth.sig.returnType = rt) && !meth.locks && decide (parseMethodDescriptor y.desc = some meth.sig)) = true) : (Jvm.Cond.code y bytes mx rt).before a s = true := by
  simp only [Bool.and_eq_true, beq_iff_eq, Bool.not_eq_true', decide_eq_true_eq] at h5
  obtain ⟨⟨⟨⟨⟨g1, g2⟩, g3⟩, g4⟩, g5⟩, g6⟩ := h5
  simp [Cond.before, Cond.holds, Cond.value, h1, h2, h3, h4, g1, g2, g3, g4, g5, g6]
def isCode : Jvm.Cond → Bool
  | .code _ _ _ _ => true
  | _ => false
theorem all_split {L : List Jvm.Cond} {P : Jvm.Cond → Bool} (h1 : L.all (fun c => isCode c || P c) = true) (h2 : ∀ c ∈ L.filter isCode, P c = true) : L.all P = true := by
  refine List.all_eq_true.mpr fun c hc => ?_
  have h := List.all_eq_true.mp h1 c hc
  rcases Bool.eq_false_or_eq_true (isCode c) with hi | hi
  · exact h2 c (List.mem_filter.mpr ⟨hc, hi⟩)
  · simpa [hi] using h
set_option maxRecDepth 65536 in
theorem w_c0 : (Jvm.Cond.code x code maxLocals ret).before args0 about1 = true := code_word (m := ⟨1, 1⟩) (meth := k1m1) (c := k1c1) (by decide +kernel) rfl rfl rfl (by decide +kernel)
set_option maxRecDepth 65536 in
theorem w_c1 : (Jvm.Cond.code ({ cls := "com/example/ennead/ennead/model/Hex", name := "<init>", desc := "(II)V" } : Jvm.MethodName) prog_9_method_1_code (3 : Nat) (Option.none : Option Jvm.ClassFile.FieldType)).before args0 about1 = true := code_word (m := ⟨4, 0⟩) (meth := k4m0) (c := k4c0) (by decide +kernel) rfl rfl rfl (by decide +kernel)
set_option maxRecDepth 65536 in
theorem w_c2 : (Jvm.Cond.code ({ cls := "java/lang/Record", name := "<init>", desc := "()V" } : Jvm.MethodName) jdk_30_method_1_code (1 : Nat) (Option.none : Option Jvm.ClassFile.FieldType)).before args0 about1 = true := code_word (m := ⟨2, 0⟩) (meth := k2m0) (c := k2c0) (by decide +kernel) rfl rfl rfl (by decide +kernel)
set_option maxRecDepth 65536 in
theorem w_c3 : (Jvm.Cond.code ({ cls := "java/lang/Object", name := "<init>", desc := "()V" } : Jvm.MethodName) object_method_1_code (1 : Nat) (Option.none : Option Jvm.ClassFile.FieldType)).before args0 about1 = true := code_word (m := ⟨0, 0⟩) (meth := k0m0) (c := k0c0) (by decide +kernel) rfl rfl rfl (by decide +kernel)
set_option maxRecDepth 65536 in
theorem w_c4 : (Jvm.Cond.code ({ cls := "com/example/ennead/ennead/model/Hex", name := "equals", desc := "(Ljava/lang/Object;)Z" } : Jvm.MethodName) prog_9_method_6_code (3 : Nat) (Option.some Jvm.ClassFile.FieldType.boolean)).before args0 about1 = true := code_word (m := ⟨4, 1⟩) (meth := k4m1) (c := k4c1) (by decide +kernel) rfl rfl rfl (by decide +kernel)
set_option maxRecDepth 65536 in
theorem w_c5 : (Jvm.Cond.code ({ cls := "java/lang/Integer", name := "valueOf", desc := "(I)Ljava/lang/Integer;" } : Jvm.MethodName) jdk_33_method_22_code (1 : Nat) (Option.some (Jvm.ClassFile.FieldType.object "java/lang/Integer"))).before args0 about1 = true := code_word (m := ⟨9, 0⟩) (meth := k9m0) (c := k9c0) (by decide +kernel) rfl rfl rfl (by decide +kernel)
set_option maxRecDepth 65536 in
theorem w_c6 : (Jvm.Cond.code ({ cls := "java/lang/Integer", name := "<init>", desc := "(I)V" } : Jvm.MethodName) jdk_33_method_23_code (2 : Nat) (Option.none : Option Jvm.ClassFile.FieldType)).before args0 about1 = true := code_word (m := ⟨9, 1⟩) (meth := k9m1) (c := k9c1) (by decide +kernel) rfl rfl rfl (by decide +kernel)
set_option maxRecDepth 65536 in
theorem w_c7 : (Jvm.Cond.code ({ cls := "java/lang/Number", name := "<init>", desc := "()V" } : Jvm.MethodName) jdk_18_method_1_code (1 : Nat) (Option.none : Option Jvm.ClassFile.FieldType)).before args0 about1 = true := code_word (m := ⟨6, 0⟩) (meth := k6m0) (c := k6c0) (by decide +kernel) rfl rfl rfl (by decide +kernel)
def codes1 : List Jvm.Cond := [Jvm.Cond.code x code maxLocals ret, Jvm.Cond.code ({ cls := "com/example/ennead/ennead/model/Hex", name := "<init>", desc := "(II)V" } : Jvm.MethodName) prog_9_method_1_code (3 : Nat) (Option.none : Option Jvm.ClassFile.FieldType), Jvm.Cond.code ({ cls := "java/lang/Record", name := "<init>", desc := "()V" } : Jvm.MethodName) jdk_30_method_1_code (1 : Nat) (Option.none : Option Jvm.ClassFile.FieldType), Jvm.Cond.code ({ cls := "java/lang/Object", name := "<init>", desc := "()V" } : Jvm.MethodName) object_method_1_code (1 : Nat) (Option.none : Option Jvm.ClassFile.FieldType), Jvm.Cond.code ({ cls := "com/example/ennead/ennead/model/Hex", name := "equals", desc := "(Ljava/lang/Object;)Z" } : Jvm.MethodName) prog_9_method_6_code (3 : Nat) (Option.some Jvm.ClassFile.FieldType.boolean), Jvm.Cond.code ({ cls := "java/lang/Integer", name := "valueOf", desc := "(I)Ljava/lang/Integer;" } : Jvm.MethodName) jdk_33_method_22_code (1 : Nat) (Option.some (Jvm.ClassFile.FieldType.object "java/lang/Integer")), Jvm.Cond.code ({ cls := "java/lang/Integer", name := "<init>", desc := "(I)V" } : Jvm.MethodName) jdk_33_method_23_code (2 : Nat) (Option.none : Option Jvm.ClassFile.FieldType), Jvm.Cond.code ({ cls := "java/lang/Number", name := "<init>", desc := "()V" } : Jvm.MethodName) jdk_18_method_1_code (1 : Nat) (Option.none : Option Jvm.ClassFile.FieldType)]
set_option maxRecDepth 65536 in
theorem codes_eq : words1.filter isCode = codes1 := rfl
theorem w_codes : ∀ c ∈ words1.filter isCode, c.before args0 about1 = true := by
  rw [codes_eq]
  intro c hc
  simp only [codes1, List.mem_cons, List.not_mem_nil, or_false] at hc
  rcases hc with rfl | rfl | rfl | rfl | rfl | rfl | rfl | rfl
  · exact w_c0
  · exact w_c1
  · exact w_c2
  · exact w_c3
  · exact w_c4
  · exact w_c5
  · exact w_c6
  · exact w_c7
set_option maxRecDepth 65536 in
theorem w_t1 : (words1.take 24).all (fun c => isCode c || c.before args0 about1) = true := by decide +kernel
set_option maxRecDepth 65536 in
theorem w_t2 : ((words1.drop 24).take 24).all (fun c => isCode c || c.before args0 about1) = true := by decide +kernel
set_option maxRecDepth 65536 in
theorem w_t3 : ((words1.drop 24).drop 24).all (fun c => isCode c || c.before args0 about1) = true := by decide +kernel
theorem w_tables : (allAtoms (Jvm.Cond.code x code maxLocals ret :: tables_1)).before args0 about1 = true := by
  rw [allAtoms_all]
  show words1.all (fun c => c.before args0 about1) = true
  refine all_split ?_ w_codes
  rw [← List.take_append_drop 24 words1, List.all_append, w_t1, ← List.take_append_drop 24 (words1.drop 24), List.all_append, w_t2, w_t3]
  rfl
set_option maxRecDepth 65536 in
theorem w_rest : rest_1_c.before args0 about1 = true := by decide +kernel
set_option maxRecDepth 65536 in
theorem w_case : (Jvm.Cond.and given_1 narrow_1).before args0 about1 = true := by decide +kernel
theorem w_applies : (headSpec (Jvm.Cond.code x code maxLocals ret :: tables_1) room_1).applies x e0.platform about1 = true :=
  (Spec.applies_iff w_frames).mpr ⟨w_running, w_runnable, w_alone, w_named, w_hears, w_ripe, w_room, w_tables⟩
theorem atStart : AtStart classFile x code maxLocals ret World_1 tables_1 room_1 Calls_1 rest_1 Pre_1 launch0 p0 e0 about1 theMethod args0 below0 :=
  ⟨lists_1, trivial, launch0.admits_env _ _ _, launch0.least_env, fairChoices_fair.cas, fairChoices_fair.clock, w_frames, w_args, w_heap, w_applies, trivial, w_rest, w_case⟩
end start1
theorem witness_1 : WitnessClaimed_1 := ⟨start1.p0, start1.e0, start1.about1, start1.theMethod, start1.args0, start1.below0, start1.atStart⟩
end Jvm.Pilot.@@N@@
