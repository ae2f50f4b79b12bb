import JvmDerived
import JvmDerived.Pilot.@@N@@Statement
import JvmDerived.Pilot.@@N@@Code
set_option linter.unusedVariables false
set_option linter.unusedSimpArgs false
namespace Jvm.Pilot.@@N@@
open Jvm Jvm.ClassFile Sem Op Lib Jvm.Free Jvm.Stand Jvm.LawKit Jvm.RoadKit Bundle Jvm.Pilot.@@N@@.Jvm.D
section OwnRet
variable {p : Program} {l : Launch} {e : Env} {R : Room} {s : State} {m : MethodId} {args : Array Value} {below : List Frame} {meth : Method} {c : Code} {T : State} {locs : List Loc} {cells slots : Nat}
theorem own_retN (X : Stand p l e R s m args below meth c T locs cells slots) (hx : p.tables.exec = Jvm.exec) {pc : Nat} {Ls : Array Slot} {z : Int32} {t : FieldType} {rest : List Value} (hret : meth.sig.returnType = some t) (ht : t = .boolean ∨ t = .byte ∨ t = .char ∨ t = .short) (hz : nar t z = z)
    (hd : decode c.code pc = .ok (.ireturn, 1)) {fs : List Frame} (hl : ∀ (f : JFrame) (acts : List Action), f.method = m → f.locked = none → f.entered = [] → (doReturn e (T.setTop f) acts (some (.int z))).1 = T.setFrames fs) :
    Steps p.tables e below (T.setTop (mkF m pc Ls (.int z :: rest))) (T.setFrames fs) := retN X hx hret ht hd (by rw [hz]; exact hl)
theorem own_nb {z : Int32} (h : z = 0 ∨ z = 1) : nar .boolean z = z := by rcases h with rfl | rfl <;> rfl
end OwnRet
theorem own_ext {h0 h : Heap} (K : Keep h0 h []) : Ext h0 h := ⟨K.1, fun a c q => K.2.1 a c q nin0⟩
theorem own_root {Z : State} {a0 : Array Value} {O K : String} {n : Nat} (w : (Cond.noSuperclass O).before a0 Z = true) (wk : (Cond.instantiable K n).before a0 Z = true) (hn : O ≠ K) : NS Z O K := by
  obtain ⟨c, k, h1, h2, h3, -, -⟩ := Cond.noSuperclass_spec w
  obtain ⟨t, kt, g1, -⟩ := Cond.instantiable_spec wk
  have ne := ids_ne h1 g1 hn
  refine ⟨c, t, h1, g1, fun fuel => ?_⟩
  cases fuel with
  | zero => rfl
  | succ f => simp [Vm.isSubclassAux, ne, h2, h3]
theorem own_no {Z : State} {a0 : Array Value} {C S K : String} {n : Nat} (w : (Cond.superclass C S).before a0 Z = true) (wk : (Cond.instantiable K n).before a0 Z = true) (ns : NS Z C K) (hn : C ≠ K) : ∃ c t, Z.vm.findClass C = some c ∧ Z.vm.findClass K = some t ∧ Z.vm.assignable c t = false := by
  obtain ⟨c, t, h0, g0, n3⟩ := ns
  obtain ⟨p, k, kp, h1, h2, h3, h4, h5, -, h7⟩ := Cond.superclass_spec h0 w
  obtain ⟨t', k', g1, g2, g3, g4, -⟩ := Cond.instantiable_spec wk
  cases g0.symm.trans g1
  have g7 : k'.isInterface = false := (Bool.or_eq_false_iff.mp g4).1
  have ne := ids_ne h0 g0 hn
  refine ⟨c, t, h0, g0, ?_⟩
  show Z.vm.assignableAux (255 + 1) c t = false
  simp [Vm.assignableAux, ne, h2, g2, h5, g3, g7, Vm.isSubclass, n3]
theorem own_nbv {z : Int32} (h : z = 0 ∨ z = 1) : narrow .boolean (.int z) = .int z := by rcases h with rfl | rfl <;> rfl
theorem own_fb {z : Int32} (h : z = 0 ∨ z = 1) : fits .boolean (.int z) = true := by rcases h with rfl | rfl <;> rfl
theorem own_len {s : State} {args : Array Value} {t : Term} {a : Addr} {cl : Cell} {n : Int32} (ev : t.eval args s none [] s = some (.ref a)) (ha : s.arrayAt? a = some cl) (h : (Term.length t).eval args s none [] s = some (.int n)) : cl.slots.size < 2 ^ 31 ∧ cl.slots.size.toInt32 = n := by
  by_cases hl : cl.slots.size < 2 ^ 31
  · exact ⟨hl, Value.int.inj (Option.some.inj ((len_f ev ha hl).symm.trans h))⟩
  · simp [Term.eval, ev, ha, hl] at h
def own_eqv (xa xb : Addr) (y0 y1 y2 z0 z1 z2 : Int32) : Int32 := if y0 = z0 then (if y1 = z1 then (if y2 = z2 then 1 else 0) else 0) else 0
theorem own_xor (a d : Int32) : a = a ^^^ d ↔ d = 0 := by
  constructor
  · intro h
    have q : a ^^^ a = a ^^^ (a ^^^ d) := congrArg (a ^^^ ·) h
    rw [← Int32.xor_assoc, Int32.xor_self, Int32.zero_xor] at q
    exact q.symm
  · rintro rfl; simp
theorem own_flip {u d f : Int32} (hu : u = 0 ∨ u = 1) (hd : d = 0 ∨ d = 1) (hf : f = if u = d then 0 else 1) : u = f ↔ d = 0 := by
  rcases hu with rfl | rfl <;> rcases hd with rfl | rfl <;> subst hf <;> decide
theorem own_fin (xa xb : Addr) {a b u dp dw du f ex : Int32} (hu : u = 0 ∨ u = 1) (hd : du = 0 ∨ du = 1) (hf : f = if u = du then 0 else 1) (he : ex = if dp = 0 then (if dw = 0 then (if du = 0 then 1 else 0) else 0) else 0) :
    own_eqv xa xb a b u (a ^^^ dp) (b ^^^ dw) f = ex ∧ own_eqv xb xa (a ^^^ dp) (b ^^^ dw) f a b u = ex := by
  have h1 := own_xor a dp
  have h2 := own_xor b dw
  have h3 := own_flip hu hd hf
  have g1 : (a ^^^ dp = a) ↔ dp = 0 := eq_comm.trans h1
  have g2 : (b ^^^ dw = b) ↔ dw = 0 := eq_comm.trans h2
  have g3 : (f = u) ↔ du = 0 := eq_comm.trans h3
  unfold own_eqv
  simp only [h1, h2, h3, g1, g2, g3, he, and_self]
theorem dr_0 : decode jdk_30_method_1_code 0 = .ok (.aload_n 0, 1) := by decide +kernel
theorem dr_1 : decode jdk_30_method_1_code 1 = .ok (.invokespecial 1, 3) := by decide +kernel
theorem dr_4 : decode jdk_30_method_1_code 4 = .ok (.return_, 1) := by decide +kernel
theorem dn_0 : decode jdk_18_method_1_code 0 = .ok (.aload_n 0, 1) := by decide +kernel
theorem dn_1 : decode jdk_18_method_1_code 1 = .ok (.invokespecial 1, 3) := by decide +kernel
theorem dn_4 : decode jdk_18_method_1_code 4 = .ok (.return_, 1) := by decide +kernel
theorem dh_0 : decode prog_34_method_1_code 0 = .ok (.aload_n 0, 1) := by decide +kernel
theorem dh_1 : decode prog_34_method_1_code 1 = .ok (.invokespecial 1, 3) := by decide +kernel
theorem dh_4 : decode prog_34_method_1_code 4 = .ok (.aload_n 0, 1) := by decide +kernel
theorem dh_5 : decode prog_34_method_1_code 5 = .ok (.iload_n 1, 1) := by decide +kernel
theorem dh_6 : decode prog_34_method_1_code 6 = .ok (.putfield 7, 3) := by decide +kernel
theorem dh_9 : decode prog_34_method_1_code 9 = .ok (.aload_n 0, 1) := by decide +kernel
theorem dh_10 : decode prog_34_method_1_code 10 = .ok (.iload_n 2, 1) := by decide +kernel
theorem dh_11 : decode prog_34_method_1_code 11 = .ok (.putfield 13, 3) := by decide +kernel
theorem dh_14 : decode prog_34_method_1_code 14 = .ok (.aload_n 0, 1) := by decide +kernel
theorem dh_15 : decode prog_34_method_1_code 15 = .ok (.iload_n 3, 1) := by decide +kernel
theorem dh_16 : decode prog_34_method_1_code 16 = .ok (.putfield 16, 3) := by decide +kernel
theorem dh_19 : decode prog_34_method_1_code 19 = .ok (.return_, 1) := by decide +kernel
theorem di_0 : decode jdk_33_method_23_code 0 = .ok (.aload_n 0, 1) := by decide +kernel
theorem di_1 : decode jdk_33_method_23_code 1 = .ok (.invokespecial 202, 3) := by decide +kernel
theorem di_4 : decode jdk_33_method_23_code 4 = .ok (.aload_n 0, 1) := by decide +kernel
theorem di_5 : decode jdk_33_method_23_code 5 = .ok (.iload_n 1, 1) := by decide +kernel
theorem di_6 : decode jdk_33_method_23_code 6 = .ok (.putfield 205, 3) := by decide +kernel
theorem di_9 : decode jdk_33_method_23_code 9 = .ok (.return_, 1) := by decide +kernel
theorem dv_0 : decode jdk_33_method_22_code 0 = .ok (.iload_n 0, 1) := by decide +kernel
theorem dv_1 : decode jdk_33_method_22_code 1 = .ok (.bipush (-128), 2) := by decide +kernel
theorem dv_3 : decode jdk_33_method_22_code 3 = .ok (.if_icmp .lt 20, 3) := by decide +kernel
theorem dv_6 : decode jdk_33_method_22_code 6 = .ok (.iload_n 0, 1) := by decide +kernel
theorem dv_7 : decode jdk_33_method_22_code 7 = .ok (.getstatic 191, 3) := by decide +kernel
theorem dv_10 : decode jdk_33_method_22_code 10 = .ok (.if_icmp .gt 13, 3) := by decide +kernel
theorem dv_13 : decode jdk_33_method_22_code 13 = .ok (.getstatic 195, 3) := by decide +kernel
theorem dv_16 : decode jdk_33_method_22_code 16 = .ok (.iload_n 0, 1) := by decide +kernel
theorem dv_17 : decode jdk_33_method_22_code 17 = .ok (.sipush 128, 3) := by decide +kernel
theorem dv_20 : decode jdk_33_method_22_code 20 = .ok (.iadd, 1) := by decide +kernel
theorem dv_21 : decode jdk_33_method_22_code 21 = .ok (.aaload, 1) := by decide +kernel
theorem dv_22 : decode jdk_33_method_22_code 22 = .ok (.areturn, 1) := by decide +kernel
theorem dv_23 : decode jdk_33_method_22_code 23 = .ok (.new 1, 3) := by decide +kernel
theorem dv_26 : decode jdk_33_method_22_code 26 = .ok (.dup, 1) := by decide +kernel
theorem dv_27 : decode jdk_33_method_22_code 27 = .ok (.iload_n 0, 1) := by decide +kernel
theorem dv_28 : decode jdk_33_method_22_code 28 = .ok (.invokespecial 199, 3) := by decide +kernel
theorem dv_31 : decode jdk_33_method_22_code 31 = .ok (.areturn, 1) := by decide +kernel
theorem de_0 : decode prog_34_method_2_code 0 = .ok (.aload_n 1, 1) := by decide +kernel
theorem de_1 : decode prog_34_method_2_code 1 = .ok (.instanceof 8, 3) := by decide +kernel
theorem de_4 : decode prog_34_method_2_code 4 = .ok (.ifCond .eq 45, 3) := by decide +kernel
theorem de_7 : decode prog_34_method_2_code 7 = .ok (.aload_n 1, 1) := by decide +kernel
theorem de_8 : decode prog_34_method_2_code 8 = .ok (.checkcast 8, 3) := by decide +kernel
theorem de_11 : decode prog_34_method_2_code 11 = .ok (.astore_n 2, 1) := by decide +kernel
theorem de_12 : decode prog_34_method_2_code 12 = .ok (.aload_n 0, 1) := by decide +kernel
theorem de_13 : decode prog_34_method_2_code 13 = .ok (.getfield 7, 3) := by decide +kernel
theorem de_16 : decode prog_34_method_2_code 16 = .ok (.aload_n 2, 1) := by decide +kernel
theorem de_17 : decode prog_34_method_2_code 17 = .ok (.getfield 7, 3) := by decide +kernel
theorem de_20 : decode prog_34_method_2_code 20 = .ok (.if_icmp .ne 29, 3) := by decide +kernel
theorem de_23 : decode prog_34_method_2_code 23 = .ok (.aload_n 0, 1) := by decide +kernel
theorem de_24 : decode prog_34_method_2_code 24 = .ok (.getfield 13, 3) := by decide +kernel
theorem de_27 : decode prog_34_method_2_code 27 = .ok (.aload_n 2, 1) := by decide +kernel
theorem de_28 : decode prog_34_method_2_code 28 = .ok (.getfield 13, 3) := by decide +kernel
theorem de_31 : decode prog_34_method_2_code 31 = .ok (.if_icmp .ne 18, 3) := by decide +kernel
theorem de_34 : decode prog_34_method_2_code 34 = .ok (.aload_n 0, 1) := by decide +kernel
theorem de_35 : decode prog_34_method_2_code 35 = .ok (.getfield 16, 3) := by decide +kernel
theorem de_38 : decode prog_34_method_2_code 38 = .ok (.aload_n 2, 1) := by decide +kernel
theorem de_39 : decode prog_34_method_2_code 39 = .ok (.getfield 16, 3) := by decide +kernel
theorem de_42 : decode prog_34_method_2_code 42 = .ok (.if_icmp .ne 7, 3) := by decide +kernel
theorem de_45 : decode prog_34_method_2_code 45 = .ok (.iconst 1, 1) := by decide +kernel
theorem de_46 : decode prog_34_method_2_code 46 = .ok (.goto 4, 3) := by decide +kernel
theorem de_49 : decode prog_34_method_2_code 49 = .ok (.iconst 0, 1) := by decide +kernel
theorem de_50 : decode prog_34_method_2_code 50 = .ok (.ireturn, 1) := by decide +kernel
theorem own_pn0 : plainName "java/lang/Record" = true := by first | (simp [plainName, overriddenIn]; done) | decide +kernel
theorem own_pn1 : plainName "java/lang/Number" = true := by first | (simp [plainName, overriddenIn]; done) | decide +kernel
theorem own_pn2 : plainName "com/example/halflight/halflight/Move" = true := by first | (simp [plainName, overriddenIn]; done) | decide +kernel
theorem own_pn3 : plainName "java/lang/Integer" = true := by first | (simp [plainName, overriddenIn]; done) | decide +kernel
theorem own_pn4 : plainName "com/example/halflight/halflight/MoveEqualsPinLaw" = true := by first | (simp [plainName, overriddenIn]; done) | decide +kernel
theorem own_pd0 : parseMethodDescriptor "()V" = some ⟨[], none⟩ := by decide +kernel
theorem own_pd1 : parseMethodDescriptor "(I)V" = some ⟨[.int], none⟩ := by decide +kernel
theorem own_pd2 : parseMethodDescriptor "(IIZ)V" = some ⟨[.int, .int, .boolean], none⟩ := by decide +kernel
theorem own_pd3 : parseMethodDescriptor "(I)Ljava/lang/Integer;" = some ⟨[.int], some (.object "java/lang/Integer")⟩ := by decide +kernel
theorem own_pd4 : parseMethodDescriptor "(Ljava/lang/Object;)Z" = some ⟨[(.object "java/lang/Object")], some .boolean⟩ := by decide +kernel
def own_rec_Q (Z : State) (xa : Addr) (h0 : Heap) (n0 : Nat) (v : Option Value) (h : Heap) (L : List Loc) : Prop := v = none ∧ Fr n0 L ∧ h = h0
theorem own_rec_ef (m : MethodId) (x0 : Addr) : entryFrame m #[(.ref x0)] 1 = mkF m 0 #[.val (.ref x0)] [] := by first | (simp [entryFrame, mkF, argsToLocals, Value.category]; done) | rfl
set_option maxRecDepth 65536 in
set_option maxHeartbeats 40000000 in
theorem own_rec (l : Launch) (Z : State) (a0 : Array Value) (hw : ∀ d ∈ tables_1, d.before a0 Z = true) (ws : List Jvm.Cond) (xa : Addr) (h0 : Heap) (n0 : Nat) (Z0 : n0 ≤ h0.size)  :
    MetFree l (⟨"java/lang/Record", "<init>", "()V"⟩ : MethodName) (head1 (Jvm.Cond.code (⟨"java/lang/Record", "<init>", "()V"⟩ : MethodName) jdk_30_method_1_code 1 none :: ws) ({ frames := 1, cells := 0, slots := 0, locals := 12 } : Room)) (fun a U => a = #[(.ref xa)] ∧ Z.Warmed39 U.vm ∧ U.heap = h0) (fun _ _ _ _ _ => True) (fun _ U o U' => ∃ v L, o = .returned v ∧ own_rec_Q Z xa h0 n0 v U'.heap L ∧ FrameEnd U o U' L ({ frames := 1, cells := 0, slots := 0, locals := 12 } : Room).cells ({ frames := 1, cells := 0, slots := 0, locals := 12 } : Room).slots) := by
  refine MetFree.of_bodySF (plainFor_of_name own_pn0) hisR ?_
  intro p e s m args below meth c s₁ Bd hml0 hP hK
  obtain ⟨rfl, hZ, hh⟩ := hP
  have hx := Bd.exec
  have hby := Bd.bytes
  have hml : c.maxLocals = 1 := hml0
  have hown : s.vm.findClass "java/lang/Record" = some m.cls := findClass_of_methodNamed Bd.named
  have hnm := (name_of_methodNamed Bd.named Bd.method).1
  have X0 : Stand p l e ({ frames := 1, cells := 0, slots := 0, locals := 12 } : Room) s m #[(.ref xa)] below meth c s₁ [] 0 0 := Stand.of_body Bd
  have e0 : s₁.heap = h0 := by rw [← hh, Bd.state]; rfl
  have N0 := Fr.nil n0
  have A0 : ∀ t, Steps p.tables e below (s₁.setTop (mkF m 0 #[.val (.ref xa)] [])) t → Steps p.tables e below (s₁.setTop (entryFrame m #[(.ref xa)] 1)) t := fun t k => castTop (own_rec_ef m xa) k
  have A1 : ∀ t, Steps p.tables e below (s₁.setTop (mkF m 1 #[.val (.ref xa)] [(.ref xa)])) t → Steps p.tables e below (s₁.setTop (entryFrame m #[(.ref xa)] 1)) t := by
    intro t k
    refine A0 _ ?_
    refine XS.aloadN X0.here hx rfl (hb hby dr_0) rfl rfl ?_
    show Steps p.tables e below (s₁.setTop (mkF m 1 #[.val (.ref xa)] [(.ref xa)])) _
    exact k
  obtain ⟨T2, X2, e2, st2⟩ := initO X0 hx hZ hown (hw _ (List.mem_of_getElem? (i := 11) rfl)) (hw _ (List.mem_of_getElem? (i := 12) rfl)) (hw _ (List.mem_of_getElem? (i := 13) rfl)) e0 (g := (mkF m 1 #[.val (.ref xa)] [(.ref xa)])) rfl (by rw [hml]; rfl) rfl (hb hby dr_1) (by decide) (W := 0) (by show 2 * 0 + _ ≤ _; exact Nat.le_of_eq rfl) (by decide)
  have A3 : ∀ t, Steps p.tables e below (T2.setTop (mkF m 4 #[.val (.ref xa)] [])) t → Steps p.tables e below (s₁.setTop (entryFrame m #[(.ref xa)] 1)) t := by
    intro t k
    refine A1 _ ?_
    refine st2 _ ?_
    show Steps p.tables e below (T2.setTop (mkF m 4 #[.val (.ref xa)] [])) _
    exact k
  obtain ⟨fs, hr, hrun, hended, hW, hsame⟩ := X2.leave (v := none) (fun _ => rfl)
  refine ⟨_, _, A3 _ ?_, hrun, hended, _, _, rfl, ?_, ⟨_, rfl⟩, hW, hsame.mono (by decide) (by decide)⟩
  · exact X2.returnOut hx Bd.returns (hb hby dr_4) hr
  · show own_rec_Q Z xa h0 n0 _ T2.heap _
    rw [e2]
    exact ⟨rfl, N0, rfl⟩
def own_num_Q (Z : State) (xa : Addr) (h0 : Heap) (n0 : Nat) (v : Option Value) (h : Heap) (L : List Loc) : Prop := v = none ∧ Fr n0 L ∧ h = h0
theorem own_num_ef (m : MethodId) (x0 : Addr) : entryFrame m #[(.ref x0)] 1 = mkF m 0 #[.val (.ref x0)] [] := by first | (simp [entryFrame, mkF, argsToLocals, Value.category]; done) | rfl
set_option maxRecDepth 65536 in
set_option maxHeartbeats 40000000 in
theorem own_num (l : Launch) (Z : State) (a0 : Array Value) (hw : ∀ d ∈ tables_1, d.before a0 Z = true) (ws : List Jvm.Cond) (xa : Addr) (h0 : Heap) (n0 : Nat) (Z0 : n0 ≤ h0.size)  :
    MetFree l (⟨"java/lang/Number", "<init>", "()V"⟩ : MethodName) (head1 (Jvm.Cond.code (⟨"java/lang/Number", "<init>", "()V"⟩ : MethodName) jdk_18_method_1_code 1 none :: ws) ({ frames := 1, cells := 0, slots := 0, locals := 12 } : Room)) (fun a U => a = #[(.ref xa)] ∧ Z.Warmed39 U.vm ∧ U.heap = h0) (fun _ _ _ _ _ => True) (fun _ U o U' => ∃ v L, o = .returned v ∧ own_num_Q Z xa h0 n0 v U'.heap L ∧ FrameEnd U o U' L ({ frames := 1, cells := 0, slots := 0, locals := 12 } : Room).cells ({ frames := 1, cells := 0, slots := 0, locals := 12 } : Room).slots) := by
  refine MetFree.of_bodySF (plainFor_of_name own_pn1) hisR ?_
  intro p e s m args below meth c s₁ Bd hml0 hP hK
  obtain ⟨rfl, hZ, hh⟩ := hP
  have hx := Bd.exec
  have hby := Bd.bytes
  have hml : c.maxLocals = 1 := hml0
  have hown : s.vm.findClass "java/lang/Number" = some m.cls := findClass_of_methodNamed Bd.named
  have hnm := (name_of_methodNamed Bd.named Bd.method).1
  have X0 : Stand p l e ({ frames := 1, cells := 0, slots := 0, locals := 12 } : Room) s m #[(.ref xa)] below meth c s₁ [] 0 0 := Stand.of_body Bd
  have e0 : s₁.heap = h0 := by rw [← hh, Bd.state]; rfl
  have N0 := Fr.nil n0
  have A0 : ∀ t, Steps p.tables e below (s₁.setTop (mkF m 0 #[.val (.ref xa)] [])) t → Steps p.tables e below (s₁.setTop (entryFrame m #[(.ref xa)] 1)) t := fun t k => castTop (own_num_ef m xa) k
  have A4 : ∀ t, Steps p.tables e below (s₁.setTop (mkF m 1 #[.val (.ref xa)] [(.ref xa)])) t → Steps p.tables e below (s₁.setTop (entryFrame m #[(.ref xa)] 1)) t := by
    intro t k
    refine A0 _ ?_
    refine XS.aloadN X0.here hx rfl (hb hby dn_0) rfl rfl ?_
    show Steps p.tables e below (s₁.setTop (mkF m 1 #[.val (.ref xa)] [(.ref xa)])) _
    exact k
  obtain ⟨T5, X5, e5, st5⟩ := initO X0 hx hZ hown (hw _ (List.mem_of_getElem? (i := 49) rfl)) (hw _ (List.mem_of_getElem? (i := 12) rfl)) (hw _ (List.mem_of_getElem? (i := 13) rfl)) e0 (g := (mkF m 1 #[.val (.ref xa)] [(.ref xa)])) rfl (by rw [hml]; rfl) rfl (hb hby dn_1) (by decide) (W := 0) (by show 2 * 0 + _ ≤ _; exact Nat.le_of_eq rfl) (by decide)
  have A6 : ∀ t, Steps p.tables e below (T5.setTop (mkF m 4 #[.val (.ref xa)] [])) t → Steps p.tables e below (s₁.setTop (entryFrame m #[(.ref xa)] 1)) t := by
    intro t k
    refine A4 _ ?_
    refine st5 _ ?_
    show Steps p.tables e below (T5.setTop (mkF m 4 #[.val (.ref xa)] [])) _
    exact k
  obtain ⟨fs, hr, hrun, hended, hW, hsame⟩ := X5.leave (v := none) (fun _ => rfl)
  refine ⟨_, _, A6 _ ?_, hrun, hended, _, _, rfl, ?_, ⟨_, rfl⟩, hW, hsame.mono (by decide) (by decide)⟩
  · exact X5.returnOut hx Bd.returns (hb hby dn_4) hr
  · show own_num_Q Z xa h0 n0 _ T5.heap _
    rw [e5]
    exact ⟨rfl, N0, rfl⟩
def own_mov_Q (Z : State) (xa : Addr) (x0 x1 x2 : Int32) (h0 : Heap) (n0 : Nat) (v : Option Value) (h : Heap) (L : List Loc) : Prop := v = none ∧ Fr n0 L ∧ Keep h0 h [xa] ∧ Exa Z h xa "com/example/halflight/halflight/Move" ∧ Fld Z h xa "com/example/halflight/halflight/Move" "process" "I" (.int x0) ∧ Fld Z h xa "com/example/halflight/halflight/Move" "way" "I" (.int x1) ∧ Fld Z h xa "com/example/halflight/halflight/Move" "unknown" "Z" (.int x2)
theorem own_mov_ef (m : MethodId) (x0 : Addr) (x1 : Int32) (x2 : Int32) (x3 : Int32) : entryFrame m #[(.ref x0), (.int x1), (.int x2), (.int x3)] 4 = mkF m 0 #[.val (.ref x0), .val (.int x1), .val (.int x2), .val (.int x3)] [] := by first | (simp [entryFrame, mkF, argsToLocals, Value.category]; done) | rfl
set_option maxRecDepth 65536 in
set_option maxHeartbeats 40000000 in
theorem own_mov (l : Launch) (Z : State) (a0 : Array Value) (hw : ∀ d ∈ tables_1, d.before a0 Z = true) (ws : List Jvm.Cond) (xa : Addr) (x0 x1 x2 : Int32) (h0 : Heap) (n0 : Nat) (Z0 : n0 ≤ h0.size) (E0 : Exa Z h0 xa "com/example/halflight/halflight/Move") (g0 : n0 ≤ xa) (F0 : Fld Z h0 xa "com/example/halflight/halflight/Move" "process" "I" (.int (0 : Int32))) (F1 : Fld Z h0 xa "com/example/halflight/halflight/Move" "way" "I" (.int (0 : Int32))) (F2 : Fld Z h0 xa "com/example/halflight/halflight/Move" "unknown" "Z" (.int (0 : Int32))) (h012 : x2 = 0 ∨ x2 = 1) :
    MetFree l (⟨"com/example/halflight/halflight/Move", "<init>", "(IIZ)V"⟩ : MethodName) (head1 (Jvm.Cond.code (⟨"com/example/halflight/halflight/Move", "<init>", "(IIZ)V"⟩ : MethodName) prog_34_method_1_code 4 none :: ws) ({ frames := 2, cells := 0, slots := 0, locals := 24 } : Room)) (fun a U => a = #[(.ref xa), (.int x0), (.int x1), (.int x2)] ∧ Z.Warmed39 U.vm ∧ U.heap = h0) (fun _ _ _ _ _ => True) (fun _ U o U' => ∃ v L, o = .returned v ∧ own_mov_Q Z xa x0 x1 x2 h0 n0 v U'.heap L ∧ FrameEnd U o U' L ({ frames := 2, cells := 0, slots := 0, locals := 24 } : Room).cells ({ frames := 2, cells := 0, slots := 0, locals := 24 } : Room).slots) := by
  refine MetFree.of_bodySF (plainFor_of_name own_pn2) hisR ?_
  intro p e s m args below meth c s₁ Bd hml0 hP hK
  obtain ⟨rfl, hZ, hh⟩ := hP
  have hx := Bd.exec
  have hby := Bd.bytes
  have hml : c.maxLocals = 4 := hml0
  have hown : s.vm.findClass "com/example/halflight/halflight/Move" = some m.cls := findClass_of_methodNamed Bd.named
  have hnm := (name_of_methodNamed Bd.named Bd.method).1
  have X0 : Stand p l e ({ frames := 2, cells := 0, slots := 0, locals := 24 } : Room) s m #[(.ref xa), (.int x0), (.int x1), (.int x2)] below meth c s₁ [] 0 0 := Stand.of_body Bd
  have e0 : s₁.heap = h0 := by rw [← hh, Bd.state]; rfl
  have N0 := Fr.nil n0
  have A0 : ∀ t, Steps p.tables e below (s₁.setTop (mkF m 0 #[.val (.ref xa), .val (.int x0), .val (.int x1), .val (.int x2)] [])) t → Steps p.tables e below (s₁.setTop (entryFrame m #[(.ref xa), (.int x0), (.int x1), (.int x2)] 4)) t := fun t k => castTop (own_mov_ef m xa x0 x1 x2) k
  have A7 : ∀ t, Steps p.tables e below (s₁.setTop (mkF m 1 #[.val (.ref xa), .val (.int x0), .val (.int x1), .val (.int x2)] [(.ref xa)])) t → Steps p.tables e below (s₁.setTop (entryFrame m #[(.ref xa), (.int x0), (.int x1), (.int x2)] 4)) t := by
    intro t k
    refine A0 _ ?_
    refine XS.aloadN X0.here hx rfl (hb hby dh_0) rfl rfl ?_
    show Steps p.tables e below (s₁.setTop (mkF m 1 #[.val (.ref xa), .val (.int x0), .val (.int x1), .val (.int x2)] [(.ref xa)])) _
    exact k
  obtain ⟨_, _, ⟨T8, L8, k8, n8⟩, -, X8, ⟨Lc8, hQ8, l8, y8, z8⟩, st8⟩ := X0.specialBack hx (y := (⟨"java/lang/Record", "<init>", "()V"⟩ : MethodName)) rfl hown (mvT hZ (hw _ (List.mem_of_getElem? (i := 6) rfl))) (mvT hZ (hw _ (List.mem_of_getElem? (i := 7) rfl))) (mvT hZ (hw _ (List.mem_of_getElem? (i := 10) rfl))) (by decide) (backOf (W := 0) (own_rec l Z a0 hw [] xa h0 n0 Z0) hZ (hw _ (List.mem_of_getElem? (i := 10) rfl)) (hw _ (List.mem_of_getElem? (i := 9) rfl)) (by decide) (by decide)) (g := (mkF m 1 #[.val (.ref xa), .val (.int x0), .val (.int x1), .val (.int x2)] [(.ref xa)])) rfl (by rw [hml]; rfl) (Steps.refl _) (a := xa) (argsL := []) (rest := []) (lenOf own_pd0 rfl) rfl (by show 2 * 0 + _ ≤ _; exact Nat.le_of_eq rfl) (hb hby dh_1) (fun _ _ => ⟨rfl, e0, (by decide : 0 + 0 ≤ _), (by decide : 0 + 0 ≤ _)⟩)
  dsimp only [Pt.U, Pt.locs, Pt.cells, Pt.slots] at X8 l8 y8 z8 st8 hQ8
  subst l8 y8 z8
  obtain ⟨rfl, Nq8, eh8⟩ := hQ8
  have Nf9 := Fr.app N0 Nq8
  have A10 : ∀ t, Steps p.tables e below (T8.setTop (mkF m 6 #[.val (.ref xa), .val (.int x0), .val (.int x1), .val (.int x2)] [(.int x0), (.ref xa)])) t → Steps p.tables e below (s₁.setTop (entryFrame m #[(.ref xa), (.int x0), (.int x1), (.int x2)] 4)) t := by
    intro t k
    refine A7 _ ?_
    refine st8.trans ?_
    show Steps p.tables e below (T8.setTop (mkF m 4 #[.val (.ref xa), .val (.int x0), .val (.int x1), .val (.int x2)] [])) _
    refine XS.aloadN X8.here hx rfl (hb hby dh_4) rfl rfl ?_
    show Steps p.tables e below (T8.setTop (mkF m 5 #[.val (.ref xa), .val (.int x0), .val (.int x1), .val (.int x2)] [(.ref xa)])) _
    refine XS.iloadN X8.here hx rfl (hb hby dh_5) rfl ?_
    show Steps p.tables e below (T8.setTop (mkF m 6 #[.val (.ref xa), .val (.int x0), .val (.int x1), .val (.int x2)] [(.int x0), (.ref xa)])) _
    exact k
  obtain ⟨T11, h11, X11, e11, W11, st11⟩ := putF X8 hx hZ hown (host := "") (Or.inl (hw _ (List.mem_of_getElem? (i := 14) rfl))) Via.refl eh8 F0 E0 (Or.inr ⟨(hw _ (List.mem_of_getElem? (i := 15) rfl)), rfl, hnm⟩) (hw _ (List.mem_of_getElem? (i := 1) rfl)) (ty := .int) (by decide) rfl rfl (g := (mkF m 6 #[.val (.ref xa), .val (.int x0), .val (.int x1), .val (.int x2)] [(.int x0), (.ref xa)])) rfl rfl (hb hby dh_6)
  have Ex12 := E0.wr W11
  have Fl13 := F0.same W11
  have Fl14 := F1.other W11 (Or.inr (slot_ne (Or.inr (hw _ (List.mem_of_getElem? (i := 17) rfl))) (Or.inr (hw _ (List.mem_of_getElem? (i := 15) rfl))) (by decide) (t := .int) (t' := .int) (by decide) (by decide)))
  have Fl15 := F2.other W11 (Or.inr (slot_ne (Or.inr (hw _ (List.mem_of_getElem? (i := 19) rfl))) (Or.inr (hw _ (List.mem_of_getElem? (i := 15) rfl))) (by decide) (t := .boolean) (t' := .int) (by decide) (by decide)))
  have Zs16 := Nat.le_trans Z0 (Keep.of_wr W11).1
  have Nf17 := Fr.snoc X11 Nf9 g0
  have Kp18 := (Keep.refl h0 [xa]).wr W11 (Or.inl (List.mem_of_getElem? (i := 0) rfl))
  have A19 : ∀ t, Steps p.tables e below (T11.setTop (mkF m 11 #[.val (.ref xa), .val (.int x0), .val (.int x1), .val (.int x2)] [(.int x1), (.ref xa)])) t → Steps p.tables e below (s₁.setTop (entryFrame m #[(.ref xa), (.int x0), (.int x1), (.int x2)] 4)) t := by
    intro t k
    refine A10 _ ?_
    refine st11 _ ?_
    show Steps p.tables e below (T11.setTop (mkF m 9 #[.val (.ref xa), .val (.int x0), .val (.int x1), .val (.int x2)] [])) _
    refine XS.aloadN X11.here hx rfl (hb hby dh_9) rfl rfl ?_
    show Steps p.tables e below (T11.setTop (mkF m 10 #[.val (.ref xa), .val (.int x0), .val (.int x1), .val (.int x2)] [(.ref xa)])) _
    refine XS.iloadN X11.here hx rfl (hb hby dh_10) rfl ?_
    show Steps p.tables e below (T11.setTop (mkF m 11 #[.val (.ref xa), .val (.int x0), .val (.int x1), .val (.int x2)] [(.int x1), (.ref xa)])) _
    exact k
  obtain ⟨T20, h20, X20, e20, W20, st20⟩ := putF X11 hx hZ hown (host := "") (Or.inl (hw _ (List.mem_of_getElem? (i := 16) rfl))) Via.refl e11 Fl14 Ex12 (Or.inr ⟨(hw _ (List.mem_of_getElem? (i := 17) rfl)), rfl, hnm⟩) (hw _ (List.mem_of_getElem? (i := 1) rfl)) (ty := .int) (by decide) rfl rfl (g := (mkF m 11 #[.val (.ref xa), .val (.int x0), .val (.int x1), .val (.int x2)] [(.int x1), (.ref xa)])) rfl rfl (hb hby dh_11)
  have Ex21 := Ex12.wr W20
  have Fl22 := Fl13.other W20 (Or.inr (slot_ne (Or.inr (hw _ (List.mem_of_getElem? (i := 15) rfl))) (Or.inr (hw _ (List.mem_of_getElem? (i := 17) rfl))) (by decide) (t := .int) (t' := .int) (by decide) (by decide)))
  have Fl23 := Fl14.same W20
  have Fl24 := Fl15.other W20 (Or.inr (slot_ne (Or.inr (hw _ (List.mem_of_getElem? (i := 19) rfl))) (Or.inr (hw _ (List.mem_of_getElem? (i := 17) rfl))) (by decide) (t := .boolean) (t' := .int) (by decide) (by decide)))
  have Zs25 := Nat.le_trans Zs16 (Keep.of_wr W20).1
  have Nf26 := Fr.snoc X20 Nf17 g0
  have Kp27 := Kp18.wr W20 (Or.inl (List.mem_of_getElem? (i := 0) rfl))
  have A28 : ∀ t, Steps p.tables e below (T20.setTop (mkF m 16 #[.val (.ref xa), .val (.int x0), .val (.int x1), .val (.int x2)] [(.int x2), (.ref xa)])) t → Steps p.tables e below (s₁.setTop (entryFrame m #[(.ref xa), (.int x0), (.int x1), (.int x2)] 4)) t := by
    intro t k
    refine A19 _ ?_
    refine st20 _ ?_
    show Steps p.tables e below (T20.setTop (mkF m 14 #[.val (.ref xa), .val (.int x0), .val (.int x1), .val (.int x2)] [])) _
    refine XS.aloadN X20.here hx rfl (hb hby dh_14) rfl rfl ?_
    show Steps p.tables e below (T20.setTop (mkF m 15 #[.val (.ref xa), .val (.int x0), .val (.int x1), .val (.int x2)] [(.ref xa)])) _
    refine XS.iloadN X20.here hx rfl (hb hby dh_15) rfl ?_
    show Steps p.tables e below (T20.setTop (mkF m 16 #[.val (.ref xa), .val (.int x0), .val (.int x1), .val (.int x2)] [(.int x2), (.ref xa)])) _
    exact k
  obtain ⟨T29, h29, X29, e29, W29, st29⟩ := putFN X20 hx hZ hown (hw _ (List.mem_of_getElem? (i := 18) rfl)) Via.refl e20 Fl24 Ex21 (Or.inr ⟨(hw _ (List.mem_of_getElem? (i := 19) rfl)), rfl, hnm⟩) (hw _ (List.mem_of_getElem? (i := 1) rfl)) (ty := .boolean) (v' := (.int x2)) (by decide) (own_nbv h012) (own_fb h012) (g := (mkF m 16 #[.val (.ref xa), .val (.int x0), .val (.int x1), .val (.int x2)] [(.int x2), (.ref xa)])) rfl rfl (hb hby dh_16)
  have Ex30 := Ex21.wr W29
  have Fl31 := Fl22.other W29 (Or.inr (slot_ne (Or.inr (hw _ (List.mem_of_getElem? (i := 15) rfl))) (Or.inr (hw _ (List.mem_of_getElem? (i := 19) rfl))) (by decide) (t := .int) (t' := .boolean) (by decide) (by decide)))
  have Fl32 := Fl23.other W29 (Or.inr (slot_ne (Or.inr (hw _ (List.mem_of_getElem? (i := 17) rfl))) (Or.inr (hw _ (List.mem_of_getElem? (i := 19) rfl))) (by decide) (t := .int) (t' := .boolean) (by decide) (by decide)))
  have Fl33 := Fl24.same W29
  have Zs34 := Nat.le_trans Zs25 (Keep.of_wr W29).1
  have Nf35 := Fr.snoc X29 Nf26 g0
  have Kp36 := Kp27.wr W29 (Or.inl (List.mem_of_getElem? (i := 0) rfl))
  have A37 : ∀ t, Steps p.tables e below (T29.setTop (mkF m 19 #[.val (.ref xa), .val (.int x0), .val (.int x1), .val (.int x2)] [])) t → Steps p.tables e below (s₁.setTop (entryFrame m #[(.ref xa), (.int x0), (.int x1), (.int x2)] 4)) t := by
    intro t k
    refine A28 _ ?_
    refine st29 _ ?_
    show Steps p.tables e below (T29.setTop (mkF m 19 #[.val (.ref xa), .val (.int x0), .val (.int x1), .val (.int x2)] [])) _
    exact k
  obtain ⟨fs, hr, hrun, hended, hW, hsame⟩ := X29.leave (v := none) (fun _ => rfl)
  refine ⟨_, _, A37 _ ?_, hrun, hended, _, _, rfl, ?_, ⟨_, rfl⟩, hW, hsame.mono (by decide) (by decide)⟩
  · exact X29.returnOut hx Bd.returns (hb hby dh_19) hr
  · show own_mov_Q Z xa x0 x1 x2 h0 n0 _ T29.heap _
    rw [e29]
    exact ⟨rfl, Nf35, Kp36, Ex30, Fl31, Fl32, Fl33⟩
def own_int_Q (Z : State) (xa : Addr) (x0 : Int32) (h0 : Heap) (n0 : Nat) (v : Option Value) (h : Heap) (L : List Loc) : Prop := v = none ∧ Fr n0 L ∧ Keep h0 h [xa] ∧ Exa Z h xa "java/lang/Integer" ∧ Fld Z h xa "java/lang/Integer" "value" "I" (.int x0)
theorem own_int_ef (m : MethodId) (x0 : Addr) (x1 : Int32) : entryFrame m #[(.ref x0), (.int x1)] 2 = mkF m 0 #[.val (.ref x0), .val (.int x1)] [] := by first | (simp [entryFrame, mkF, argsToLocals, Value.category]; done) | rfl
set_option maxRecDepth 65536 in
set_option maxHeartbeats 40000000 in
theorem own_int (l : Launch) (Z : State) (a0 : Array Value) (hw : ∀ d ∈ tables_1, d.before a0 Z = true) (ws : List Jvm.Cond) (xa : Addr) (x0 : Int32) (h0 : Heap) (n0 : Nat) (Z0 : n0 ≤ h0.size) (E0 : Exa Z h0 xa "java/lang/Integer") (g0 : n0 ≤ xa) (F0 : Fld Z h0 xa "java/lang/Integer" "value" "I" (.int (0 : Int32)))  :
    MetFree l (⟨"java/lang/Integer", "<init>", "(I)V"⟩ : MethodName) (head1 (Jvm.Cond.code (⟨"java/lang/Integer", "<init>", "(I)V"⟩ : MethodName) jdk_33_method_23_code 2 none :: ws) ({ frames := 2, cells := 0, slots := 0, locals := 24 } : Room)) (fun a U => a = #[(.ref xa), (.int x0)] ∧ Z.Warmed39 U.vm ∧ U.heap = h0) (fun _ _ _ _ _ => True) (fun _ U o U' => ∃ v L, o = .returned v ∧ own_int_Q Z xa x0 h0 n0 v U'.heap L ∧ FrameEnd U o U' L ({ frames := 2, cells := 0, slots := 0, locals := 24 } : Room).cells ({ frames := 2, cells := 0, slots := 0, locals := 24 } : Room).slots) := by
  refine MetFree.of_bodySF (plainFor_of_name own_pn3) hisR ?_
  intro p e s m args below meth c s₁ Bd hml0 hP hK
  obtain ⟨rfl, hZ, hh⟩ := hP
  have hx := Bd.exec
  have hby := Bd.bytes
  have hml : c.maxLocals = 2 := hml0
  have hown : s.vm.findClass "java/lang/Integer" = some m.cls := findClass_of_methodNamed Bd.named
  have hnm := (name_of_methodNamed Bd.named Bd.method).1
  have X0 : Stand p l e ({ frames := 2, cells := 0, slots := 0, locals := 24 } : Room) s m #[(.ref xa), (.int x0)] below meth c s₁ [] 0 0 := Stand.of_body Bd
  have e0 : s₁.heap = h0 := by rw [← hh, Bd.state]; rfl
  have N0 := Fr.nil n0
  have A0 : ∀ t, Steps p.tables e below (s₁.setTop (mkF m 0 #[.val (.ref xa), .val (.int x0)] [])) t → Steps p.tables e below (s₁.setTop (entryFrame m #[(.ref xa), (.int x0)] 2)) t := fun t k => castTop (own_int_ef m xa x0) k
  have A38 : ∀ t, Steps p.tables e below (s₁.setTop (mkF m 1 #[.val (.ref xa), .val (.int x0)] [(.ref xa)])) t → Steps p.tables e below (s₁.setTop (entryFrame m #[(.ref xa), (.int x0)] 2)) t := by
    intro t k
    refine A0 _ ?_
    refine XS.aloadN X0.here hx rfl (hb hby di_0) rfl rfl ?_
    show Steps p.tables e below (s₁.setTop (mkF m 1 #[.val (.ref xa), .val (.int x0)] [(.ref xa)])) _
    exact k
  obtain ⟨_, _, ⟨T39, L39, k39, n39⟩, -, X39, ⟨Lc39, hQ39, l39, y39, z39⟩, st39⟩ := X0.specialBack hx (y := (⟨"java/lang/Number", "<init>", "()V"⟩ : MethodName)) rfl hown (mvT hZ (hw _ (List.mem_of_getElem? (i := 43) rfl))) (mvT hZ (hw _ (List.mem_of_getElem? (i := 44) rfl))) (mvT hZ (hw _ (List.mem_of_getElem? (i := 48) rfl))) (by decide) (backOf (W := 0) (own_num l Z a0 hw [] xa h0 n0 Z0) hZ (hw _ (List.mem_of_getElem? (i := 48) rfl)) (hw _ (List.mem_of_getElem? (i := 47) rfl)) (by decide) (by decide)) (g := (mkF m 1 #[.val (.ref xa), .val (.int x0)] [(.ref xa)])) rfl (by rw [hml]; rfl) (Steps.refl _) (a := xa) (argsL := []) (rest := []) (lenOf own_pd0 rfl) rfl (by show 2 * 0 + _ ≤ _; exact Nat.le_of_eq rfl) (hb hby di_1) (fun _ _ => ⟨rfl, e0, (by decide : 0 + 0 ≤ _), (by decide : 0 + 0 ≤ _)⟩)
  dsimp only [Pt.U, Pt.locs, Pt.cells, Pt.slots] at X39 l39 y39 z39 st39 hQ39
  subst l39 y39 z39
  obtain ⟨rfl, Nq39, eh39⟩ := hQ39
  have Nf40 := Fr.app N0 Nq39
  have A41 : ∀ t, Steps p.tables e below (T39.setTop (mkF m 6 #[.val (.ref xa), .val (.int x0)] [(.int x0), (.ref xa)])) t → Steps p.tables e below (s₁.setTop (entryFrame m #[(.ref xa), (.int x0)] 2)) t := by
    intro t k
    refine A38 _ ?_
    refine st39.trans ?_
    show Steps p.tables e below (T39.setTop (mkF m 4 #[.val (.ref xa), .val (.int x0)] [])) _
    refine XS.aloadN X39.here hx rfl (hb hby di_4) rfl rfl ?_
    show Steps p.tables e below (T39.setTop (mkF m 5 #[.val (.ref xa), .val (.int x0)] [(.ref xa)])) _
    refine XS.iloadN X39.here hx rfl (hb hby di_5) rfl ?_
    show Steps p.tables e below (T39.setTop (mkF m 6 #[.val (.ref xa), .val (.int x0)] [(.int x0), (.ref xa)])) _
    exact k
  obtain ⟨T42, h42, X42, e42, W42, st42⟩ := putF X39 hx hZ hown (host := "") (Or.inl (hw _ (List.mem_of_getElem? (i := 50) rfl))) Via.refl eh39 F0 E0 (Or.inr ⟨(hw _ (List.mem_of_getElem? (i := 51) rfl)), rfl, hnm⟩) (hw _ (List.mem_of_getElem? (i := 38) rfl)) (ty := .int) (by decide) rfl rfl (g := (mkF m 6 #[.val (.ref xa), .val (.int x0)] [(.int x0), (.ref xa)])) rfl rfl (hb hby di_6)
  have Ex43 := E0.wr W42
  have Fl44 := F0.same W42
  have Zs45 := Nat.le_trans Z0 (Keep.of_wr W42).1
  have Nf46 := Fr.snoc X42 Nf40 g0
  have Kp47 := (Keep.refl h0 [xa]).wr W42 (Or.inl (List.mem_of_getElem? (i := 0) rfl))
  have A48 : ∀ t, Steps p.tables e below (T42.setTop (mkF m 9 #[.val (.ref xa), .val (.int x0)] [])) t → Steps p.tables e below (s₁.setTop (entryFrame m #[(.ref xa), (.int x0)] 2)) t := by
    intro t k
    refine A41 _ ?_
    refine st42 _ ?_
    show Steps p.tables e below (T42.setTop (mkF m 9 #[.val (.ref xa), .val (.int x0)] [])) _
    exact k
  obtain ⟨fs, hr, hrun, hended, hW, hsame⟩ := X42.leave (v := none) (fun _ => rfl)
  refine ⟨_, _, A48 _ ?_, hrun, hended, _, _, rfl, ?_, ⟨_, rfl⟩, hW, hsame.mono (by decide) (by decide)⟩
  · exact X42.returnOut hx Bd.returns (hb hby di_9) hr
  · show own_int_Q Z xa x0 h0 n0 _ T42.heap _
    rw [e42]
    exact ⟨rfl, Nf46, Kp47, Ex43, Fl44⟩
def own_vo_Q (Z : State) (xi : Int32) (h0 : Heap) (n0 : Nat) (v : Option Value) (h : Heap) (L : List Loc) : Prop := ∃ r : Addr, v = some (.ref r) ∧ Fr n0 L ∧ Ext h0 h ∧ Exa Z h r "java/lang/Integer"
theorem own_vo_ef (m : MethodId) (x0 : Int32) : entryFrame m #[(.int x0)] 1 = mkF m 0 #[.val (.int x0)] [] := by first | (simp [entryFrame, mkF, argsToLocals, Value.category]; done) | rfl
set_option maxRecDepth 65536 in
set_option maxHeartbeats 40000000 in
theorem own_vo (l : Launch) (Z : State) (a0 : Array Value) (hw : ∀ d ∈ tables_1, d.before a0 Z = true) (ws : List Jvm.Cond) (xi : Int32) (vc : Addr) (cc : Cell) (h0 : Heap) (n0 : Nat) (Z0 : n0 ≤ h0.size) (SH : Sta Z Z.heap "java/lang/Integer$IntegerCache" "high" "I" (.int (127 : Int32))) (SC : Sta Z Z.heap "java/lang/Integer$IntegerCache" "cache" "[Ljava/lang/Integer;" (.ref vc)) (AC : Arr Z Z.heap vc cc (.object "java/lang/Integer")) (sz : cc.slots.size = 256) (hel : ∀ j : Int32, ¬ (j < 0 ∨ cc.slots.size ≤ j.toNatClampNeg) → ∃ r : Addr, cc.slots[j.toNatClampNeg]? = some (.ref r) ∧ Exa Z Z.heap r "java/lang/Integer") (O0 : Old Z n0 h0) :
    MetFree l (⟨"java/lang/Integer", "valueOf", "(I)Ljava/lang/Integer;"⟩ : MethodName) (head1 (Jvm.Cond.code (⟨"java/lang/Integer", "valueOf", "(I)Ljava/lang/Integer;"⟩ : MethodName) jdk_33_method_22_code 1 (some (.object "java/lang/Integer")) :: ws) ({ frames := 3, cells := 1, slots := 1, locals := 38 } : Room)) (fun a U => a = #[(.int xi)] ∧ Z.Warmed39 U.vm ∧ U.heap = h0) (fun _ _ _ _ _ => True) (fun _ U o U' => ∃ v L, o = .returned v ∧ own_vo_Q Z xi h0 n0 v U'.heap L ∧ FrameEnd U o U' L ({ frames := 3, cells := 1, slots := 1, locals := 38 } : Room).cells ({ frames := 3, cells := 1, slots := 1, locals := 38 } : Room).slots) := by
  refine MetFree.of_bodySF (plainFor_of_name own_pn3) hisR ?_
  intro p e s m args below meth c s₁ Bd hml0 hP hK
  obtain ⟨rfl, hZ, hh⟩ := hP
  have hx := Bd.exec
  have hby := Bd.bytes
  have hml : c.maxLocals = 1 := hml0
  have hown : s.vm.findClass "java/lang/Integer" = some m.cls := findClass_of_methodNamed Bd.named
  have hnm := (name_of_methodNamed Bd.named Bd.method).1
  have X0 : Stand p l e ({ frames := 3, cells := 1, slots := 1, locals := 38 } : Room) s m #[(.int xi)] below meth c s₁ [] 0 0 := Stand.of_body Bd
  have e0 : s₁.heap = h0 := by rw [← hh, Bd.state]; rfl
  have N0 := Fr.nil n0
  have A0 : ∀ t, Steps p.tables e below (s₁.setTop (mkF m 0 #[.val (.int xi)] [])) t → Steps p.tables e below (s₁.setTop (entryFrame m #[(.int xi)] 1)) t := fun t k => castTop (own_vo_ef m xi) k
  have A49 : ∀ t, Steps p.tables e below (s₁.setTop (mkF m 3 #[.val (.int xi)] [(.int (-128 : Int32)), (.int xi)])) t → Steps p.tables e below (s₁.setTop (entryFrame m #[(.int xi)] 1)) t := by
    intro t k
    refine A0 _ ?_
    refine XS.iloadN X0.here hx rfl (hb hby dv_0) rfl ?_
    show Steps p.tables e below (s₁.setTop (mkF m 1 #[.val (.int xi)] [(.int xi)])) _
    refine XS.bipush X0.here hx rfl (hb hby dv_1) ?_
    show Steps p.tables e below (s₁.setTop (mkF m 3 #[.val (.int xi)] [(.int (-128 : Int32)), (.int xi)])) _
    exact k
  by_cases hlo : xi < (-128 : Int32)
  · have A50 : ∀ t, Steps p.tables e below (s₁.setTop (mkF m 23 #[.val (.int xi)] [])) t → Steps p.tables e below (s₁.setTop (entryFrame m #[(.int xi)] 1)) t := by
      intro t k
      refine A49 _ ?_
      refine XS.icmpYes X0.here hx rfl (pc0 := 3) (pc' := 23) rfl (hb hby dv_3) rfl (tlt hlo).1 (by decide) (by decide) ?_
      show Steps p.tables e below (s₁.setTop (mkF m 23 #[.val (.int xi)] [])) _
      exact k
    obtain ⟨T51, h51, X51, e51, E51, B51, D51, -, st51⟩ := newO X0 hx hZ hown (hw _ (List.mem_of_getElem? (i := 37) rfl)) (hw _ (List.mem_of_getElem? (i := 38) rfl)) (hw _ (List.mem_of_getElem? (i := 22) rfl)) e0 (g := (mkF m 23 #[.val (.int xi)] [])) rfl (hb hby dv_23) (by decide) (by decide)
    obtain ⟨b51, g51⟩ : ∃ z, z = h0.size := ⟨_, rfl⟩
    rw [← g51] at B51 D51 st51
    have ge52 := Nat.le_trans Z0 (Nat.le_of_eq g51.symm)
    have Zs53 := Nat.le_trans Z0 E51.1
    have Fl54 : Fld Z h51 b51 "java/lang/Integer" "value" "I" (.int (0 : Int32)) := D51 (Or.inr (hw _ (List.mem_of_getElem? (i := 51) rfl))) (ty := .int) (by decide)
    have K0 : Keep h0 h51 [] := (Keep.refl h0 []).ext E51
    have szb : h0.size ≤ b51 := Nat.le_of_eq g51.symm
    have A55 : ∀ t, Steps p.tables e below (T51.setTop (mkF m 28 #[.val (.int xi)] [(.int xi), (.ref b51), (.ref b51)])) t → Steps p.tables e below (s₁.setTop (entryFrame m #[(.int xi)] 1)) t := by
      intro t k
      refine A50 _ ?_
      refine st51 _ ?_
      show Steps p.tables e below (T51.setTop (mkF m 26 #[.val (.int xi)] [(.ref b51)])) _
      refine XS.dup X51.here hx rfl (hb hby dv_26) rfl rfl ?_
      show Steps p.tables e below (T51.setTop (mkF m 27 #[.val (.int xi)] [(.ref b51), (.ref b51)])) _
      refine XS.iloadN X51.here hx rfl (hb hby dv_27) rfl ?_
      show Steps p.tables e below (T51.setTop (mkF m 28 #[.val (.int xi)] [(.int xi), (.ref b51), (.ref b51)])) _
      exact k
    obtain ⟨_, _, ⟨T56, L56, k56, n56⟩, -, X56, ⟨Lc56, hQ56, l56, y56, z56⟩, st56⟩ := X51.specialBack hx (y := (⟨"java/lang/Integer", "<init>", "(I)V"⟩ : MethodName)) rfl hown (mvT hZ (hw _ (List.mem_of_getElem? (i := 39) rfl))) (mvT hZ (hw _ (List.mem_of_getElem? (i := 40) rfl))) (mvT hZ (hw _ (List.mem_of_getElem? (i := 42) rfl))) (by decide) (backOf (W := 1) (own_int l Z a0 hw [] b51 xi h51 n0 Zs53 B51 ge52 Fl54) hZ (hw _ (List.mem_of_getElem? (i := 42) rfl)) (hw _ (List.mem_of_getElem? (i := 22) rfl)) (by decide) (by decide)) (g := (mkF m 28 #[.val (.int xi)] [(.int xi), (.ref b51), (.ref b51)])) rfl (by rw [hml]; rfl) (Steps.refl _) (a := b51) (argsL := [(.int xi)]) (rest := [(.ref b51)]) (lenOf own_pd1 rfl) rfl (by show 2 * 0 + _ ≤ _; exact Nat.le_of_eq rfl) (hb hby dv_28) (fun _ _ => ⟨rfl, e51, (by decide : 1 + 0 ≤ _), (by decide : 1 + 0 ≤ _)⟩)
    dsimp only [Pt.U, Pt.locs, Pt.cells, Pt.slots] at X56 l56 y56 z56 st56 hQ56
    subst l56 y56 z56
    obtain ⟨rfl, Nq56, K56, E56, F56⟩ := hQ56
    have Nf57 := Fr.app N0 Nq56
    have K1 : Keep h0 T56.heap [] := K0.trans K56 (allS (Or.inr szb) all0)
    have A58 : ∀ t, Steps p.tables e below (T56.setTop (mkF m 31 #[.val (.int xi)] [(.ref b51)])) t → Steps p.tables e below (s₁.setTop (entryFrame m #[(.int xi)] 1)) t := by
      intro t k
      refine A55 _ ?_
      refine st56.trans ?_
      show Steps p.tables e below (T56.setTop (mkF m 31 #[.val (.int xi)] [(.ref b51)])) _
      exact k
    obtain ⟨fs, hr, hrun, hended, hW, hsame⟩ := X56.leave (v := some (.ref b51)) (fun h => by rw [Bd.returns] at h; cases h)
    refine ⟨_, _, A58 _ ?_, hrun, hended, _, _, rfl, ?_, ⟨_, rfl⟩, hW, hsame.mono (by decide) (by decide)⟩
    · exact retOut X56 hx Bd.returns rfl (Or.inr (Or.inr (Or.inr (Or.inr ⟨rfl, rfl, rfl⟩)))) (hb hby dv_31) hr
    · show own_vo_Q Z xi h0 n0 _ T56.heap _
      exact ⟨_, rfl, Nf57, own_ext K1, E56⟩
  · have A59 : ∀ t, Steps p.tables e below (s₁.setTop (mkF m 7 #[.val (.int xi)] [(.int xi)])) t → Steps p.tables e below (s₁.setTop (entryFrame m #[(.int xi)] 1)) t := by
      intro t k
      refine A49 _ ?_
      refine XS.icmpNo X0.here hx rfl (hb hby dv_3) rfl (flt hlo).1 ?_
      show Steps p.tables e below (s₁.setTop (mkF m 6 #[.val (.int xi)] [])) _
      refine XS.iloadN X0.here hx rfl (hb hby dv_6) rfl ?_
      show Steps p.tables e below (s₁.setTop (mkF m 7 #[.val (.int xi)] [(.int xi)])) _
      exact k
    obtain ⟨T60, X60, e60, st60⟩ := getS2 X0 hx hZ hown (host := "") (Or.inl (hw _ (List.mem_of_getElem? (i := 24) rfl))) Via.refl e0 (SH.ext O0.2) (g := (mkF m 7 #[.val (.int xi)] [(.int xi)])) rfl (hb hby dv_7)
    have A61 : ∀ t, Steps p.tables e below (T60.setTop (mkF m 10 #[.val (.int xi)] [(.int (127 : Int32)), (.int xi)])) t → Steps p.tables e below (s₁.setTop (entryFrame m #[(.int xi)] 1)) t := by
      intro t k
      refine A59 _ ?_
      refine st60 _ ?_
      show Steps p.tables e below (T60.setTop (mkF m 10 #[.val (.int xi)] [(.int (127 : Int32)), (.int xi)])) _
      exact k
    by_cases hhi : (127 : Int32) < xi
    · have A62 : ∀ t, Steps p.tables e below (T60.setTop (mkF m 23 #[.val (.int xi)] [])) t → Steps p.tables e below (s₁.setTop (entryFrame m #[(.int xi)] 1)) t := by
        intro t k
        refine A61 _ ?_
        refine XS.icmpYes X60.here hx rfl (pc0 := 10) (pc' := 23) rfl (hb hby dv_10) rfl (tlt hhi).2.2.1 (by decide) (by decide) ?_
        show Steps p.tables e below (T60.setTop (mkF m 23 #[.val (.int xi)] [])) _
        exact k
      obtain ⟨T63, h63, X63, e63, E63, B63, D63, -, st63⟩ := newO X60 hx hZ hown (hw _ (List.mem_of_getElem? (i := 37) rfl)) (hw _ (List.mem_of_getElem? (i := 38) rfl)) (hw _ (List.mem_of_getElem? (i := 22) rfl)) e60 (g := (mkF m 23 #[.val (.int xi)] [])) rfl (hb hby dv_23) (by decide) (by decide)
      obtain ⟨b63, g63⟩ : ∃ z, z = h0.size := ⟨_, rfl⟩
      rw [← g63] at B63 D63 st63
      have ge64 := Nat.le_trans Z0 (Nat.le_of_eq g63.symm)
      have Zs65 := Nat.le_trans Z0 E63.1
      have Fl66 : Fld Z h63 b63 "java/lang/Integer" "value" "I" (.int (0 : Int32)) := D63 (Or.inr (hw _ (List.mem_of_getElem? (i := 51) rfl))) (ty := .int) (by decide)
      have K0 : Keep h0 h63 [] := (Keep.refl h0 []).ext E63
      have szb : h0.size ≤ b63 := Nat.le_of_eq g63.symm
      have A67 : ∀ t, Steps p.tables e below (T63.setTop (mkF m 28 #[.val (.int xi)] [(.int xi), (.ref b63), (.ref b63)])) t → Steps p.tables e below (s₁.setTop (entryFrame m #[(.int xi)] 1)) t := by
        intro t k
        refine A62 _ ?_
        refine st63 _ ?_
        show Steps p.tables e below (T63.setTop (mkF m 26 #[.val (.int xi)] [(.ref b63)])) _
        refine XS.dup X63.here hx rfl (hb hby dv_26) rfl rfl ?_
        show Steps p.tables e below (T63.setTop (mkF m 27 #[.val (.int xi)] [(.ref b63), (.ref b63)])) _
        refine XS.iloadN X63.here hx rfl (hb hby dv_27) rfl ?_
        show Steps p.tables e below (T63.setTop (mkF m 28 #[.val (.int xi)] [(.int xi), (.ref b63), (.ref b63)])) _
        exact k
      obtain ⟨_, _, ⟨T68, L68, k68, n68⟩, -, X68, ⟨Lc68, hQ68, l68, y68, z68⟩, st68⟩ := X63.specialBack hx (y := (⟨"java/lang/Integer", "<init>", "(I)V"⟩ : MethodName)) rfl hown (mvT hZ (hw _ (List.mem_of_getElem? (i := 39) rfl))) (mvT hZ (hw _ (List.mem_of_getElem? (i := 40) rfl))) (mvT hZ (hw _ (List.mem_of_getElem? (i := 42) rfl))) (by decide) (backOf (W := 1) (own_int l Z a0 hw [] b63 xi h63 n0 Zs65 B63 ge64 Fl66) hZ (hw _ (List.mem_of_getElem? (i := 42) rfl)) (hw _ (List.mem_of_getElem? (i := 22) rfl)) (by decide) (by decide)) (g := (mkF m 28 #[.val (.int xi)] [(.int xi), (.ref b63), (.ref b63)])) rfl (by rw [hml]; rfl) (Steps.refl _) (a := b63) (argsL := [(.int xi)]) (rest := [(.ref b63)]) (lenOf own_pd1 rfl) rfl (by show 2 * 0 + _ ≤ _; exact Nat.le_of_eq rfl) (hb hby dv_28) (fun _ _ => ⟨rfl, e63, (by decide : 1 + 0 ≤ _), (by decide : 1 + 0 ≤ _)⟩)
      dsimp only [Pt.U, Pt.locs, Pt.cells, Pt.slots] at X68 l68 y68 z68 st68 hQ68
      subst l68 y68 z68
      obtain ⟨rfl, Nq68, K68, E68, F68⟩ := hQ68
      have Nf69 := Fr.app N0 Nq68
      have K1 : Keep h0 T68.heap [] := K0.trans K68 (allS (Or.inr szb) all0)
      have A70 : ∀ t, Steps p.tables e below (T68.setTop (mkF m 31 #[.val (.int xi)] [(.ref b63)])) t → Steps p.tables e below (s₁.setTop (entryFrame m #[(.int xi)] 1)) t := by
        intro t k
        refine A67 _ ?_
        refine st68.trans ?_
        show Steps p.tables e below (T68.setTop (mkF m 31 #[.val (.int xi)] [(.ref b63)])) _
        exact k
      obtain ⟨fs, hr, hrun, hended, hW, hsame⟩ := X68.leave (v := some (.ref b63)) (fun h => by rw [Bd.returns] at h; cases h)
      refine ⟨_, _, A70 _ ?_, hrun, hended, _, _, rfl, ?_, ⟨_, rfl⟩, hW, hsame.mono (by decide) (by decide)⟩
      · exact retOut X68 hx Bd.returns rfl (Or.inr (Or.inr (Or.inr (Or.inr ⟨rfl, rfl, rfl⟩)))) (hb hby dv_31) hr
      · show own_vo_Q Z xi h0 n0 _ T68.heap _
        exact ⟨_, rfl, Nf69, own_ext K1, E68⟩
    · have A71 : ∀ t, Steps p.tables e below (T60.setTop (mkF m 13 #[.val (.int xi)] [])) t → Steps p.tables e below (s₁.setTop (entryFrame m #[(.int xi)] 1)) t := by
        intro t k
        refine A61 _ ?_
        refine XS.icmpNo X60.here hx rfl (hb hby dv_10) rfl (flt hhi).2.2.1 ?_
        show Steps p.tables e below (T60.setTop (mkF m 13 #[.val (.int xi)] [])) _
        exact k
      obtain ⟨T72, X72, e72, st72⟩ := getS2 X60 hx hZ hown (host := "") (Or.inl (hw _ (List.mem_of_getElem? (i := 26) rfl))) Via.refl e60 (SC.ext O0.2) (g := (mkF m 13 #[.val (.int xi)] [])) rfl (hb hby dv_13)
      have A73 : ∀ t, Steps p.tables e below (T72.setTop (mkF m 21 #[.val (.int xi)] [(.int (xi + (128 : Int32))), (.ref vc)])) t → Steps p.tables e below (s₁.setTop (entryFrame m #[(.int xi)] 1)) t := by
        intro t k
        refine A71 _ ?_
        refine st72 _ ?_
        show Steps p.tables e below (T72.setTop (mkF m 16 #[.val (.int xi)] [(.ref vc)])) _
        refine XS.iloadN X72.here hx rfl (hb hby dv_16) rfl ?_
        show Steps p.tables e below (T72.setTop (mkF m 17 #[.val (.int xi)] [(.int xi), (.ref vc)])) _
        refine XS.sipush X72.here hx rfl (hb hby dv_17) ?_
        show Steps p.tables e below (T72.setTop (mkF m 20 #[.val (.int xi)] [(.int (128 : Int32)), (.int xi), (.ref vc)])) _
        refine XS.iadd X72.here hx rfl (hb hby dv_20) rfl ?_
        show Steps p.tables e below (T72.setTop (mkF m 21 #[.val (.int xi)] [(.int (xi + (128 : Int32))), (.ref vc)])) _
        exact k
      have hj : ¬ ((xi + (128 : Int32)) < 0 ∨ cc.slots.size ≤ ((xi + (128 : Int32))).toNatClampNeg) := by
        have q1 := c_iadd xi (128 : Int32)
        have q2 := rng32 (xi + (128 : Int32))
        rw [Int32.lt_iff_toInt_lt] at hlo hhi
        rw [show (128 : Int32).toInt = 128 from rfl] at q1
        rw [show (-128 : Int32).toInt = -128 from rfl] at hlo
        rw [show (127 : Int32).toInt = 127 from rfl] at hhi
        rw [sz, Int32.lt_iff_toInt_lt, show (0 : Int32).toInt = 0 from rfl]
        simp only [Int32.toNatClampNeg]
        omega
      obtain ⟨r, hat, ER⟩ := hel _ hj
      have A74 : ∀ t, Steps p.tables e below (T72.setTop (mkF m 22 #[.val (.int xi)] [(.ref r)])) t → Steps p.tables e below (s₁.setTop (entryFrame m #[(.int xi)] 1)) t := by
        intro t k
        refine A73 _ ?_
        refine X72.aaload hx (j := (xi + (128 : Int32))) (v := (.ref r)) (by rw [e72]; exact O0.2.2 _ _ AC.1) (State.isArrayOf_alike hZ.alike AC.2.1) rfl AC.2.2 hj hat (g := (mkF m 21 #[.val (.int xi)] [(.int (xi + (128 : Int32))), (.ref vc)])) rfl rfl (hb hby dv_21) _ ?_
        show Steps p.tables e below (T72.setTop (mkF m 22 #[.val (.int xi)] [(.ref r)])) _
        exact k
      obtain ⟨fs, hr, hrun, hended, hW, hsame⟩ := X72.leave (v := some (.ref r)) (fun h => by rw [Bd.returns] at h; cases h)
      refine ⟨_, _, A74 _ ?_, hrun, hended, _, _, rfl, ?_, ⟨_, rfl⟩, hW, hsame.mono (by decide) (by decide)⟩
      · exact retOut X72 hx Bd.returns rfl (Or.inr (Or.inr (Or.inr (Or.inr ⟨rfl, rfl, rfl⟩)))) (hb hby dv_22) hr
      · show own_vo_Q Z xi h0 n0 _ T72.heap _
        rw [e72]
        exact ⟨_, rfl, N0, ⟨Nat.le_refl _, fun _ _ q => q⟩, ER.ext O0.2⟩
def own_eqN_Q (Z : State) (xa : Addr) (h0 : Heap) (n0 : Nat) (v : Option Value) (h : Heap) (L : List Loc) : Prop := v = some (.int (0)) ∧ Fr n0 L ∧ h = h0
theorem own_eqN_ef (m : MethodId) (x0 : Addr) : entryFrame m #[(.ref x0), .null] 3 = mkF m 0 #[.val (.ref x0), .val .null, .unset] [] := by first | (simp [entryFrame, mkF, argsToLocals, Value.category]; done) | rfl
set_option maxRecDepth 65536 in
set_option maxHeartbeats 40000000 in
theorem own_eqN (l : Launch) (Z : State) (a0 : Array Value) (hw : ∀ d ∈ tables_1, d.before a0 Z = true) (ws : List Jvm.Cond) (xa : Addr) (h0 : Heap) (n0 : Nat) (Z0 : n0 ≤ h0.size)  :
    MetFree l (⟨"com/example/halflight/halflight/Move", "equals", "(Ljava/lang/Object;)Z"⟩ : MethodName) (head1 (Jvm.Cond.code (⟨"com/example/halflight/halflight/Move", "equals", "(Ljava/lang/Object;)Z"⟩ : MethodName) prog_34_method_2_code 3 (some .boolean) :: ws) ({ frames := 0, cells := 0, slots := 0, locals := 0 } : Room)) (fun a U => a = #[(.ref xa), .null] ∧ Z.Warmed39 U.vm ∧ U.heap = h0) (fun _ _ _ _ _ => True) (fun _ U o U' => ∃ v L, o = .returned v ∧ own_eqN_Q Z xa h0 n0 v U'.heap L ∧ FrameEnd U o U' L ({ frames := 0, cells := 0, slots := 0, locals := 0 } : Room).cells ({ frames := 0, cells := 0, slots := 0, locals := 0 } : Room).slots) := by
  refine MetFree.of_bodySF (plainFor_of_name own_pn2) hisR ?_
  intro p e s m args below meth c s₁ Bd hml0 hP hK
  obtain ⟨rfl, hZ, hh⟩ := hP
  have hx := Bd.exec
  have hby := Bd.bytes
  have hml : c.maxLocals = 3 := hml0
  have hown : s.vm.findClass "com/example/halflight/halflight/Move" = some m.cls := findClass_of_methodNamed Bd.named
  have hnm := (name_of_methodNamed Bd.named Bd.method).1
  have X0 : Stand p l e ({ frames := 0, cells := 0, slots := 0, locals := 0 } : Room) s m #[(.ref xa), .null] below meth c s₁ [] 0 0 := Stand.of_body Bd
  have e0 : s₁.heap = h0 := by rw [← hh, Bd.state]; rfl
  have N0 := Fr.nil n0
  have A0 : ∀ t, Steps p.tables e below (s₁.setTop (mkF m 0 #[.val (.ref xa), .val .null, .unset] [])) t → Steps p.tables e below (s₁.setTop (entryFrame m #[(.ref xa), .null] 3)) t := fun t k => castTop (own_eqN_ef m xa) k
  have A75 : ∀ t, Steps p.tables e below (s₁.setTop (mkF m 50 #[.val (.ref xa), .val .null, .unset] [(.int (0 : Int32))])) t → Steps p.tables e below (s₁.setTop (entryFrame m #[(.ref xa), .null] 3)) t := by
    intro t k
    refine A0 _ ?_
    refine XS.aloadN X0.here hx rfl (hb hby de_0) rfl rfl ?_
    show Steps p.tables e below (s₁.setTop (mkF m 1 #[.val (.ref xa), .val .null, .unset] [.null])) _
    refine X0.instanceofNull hx (g := (mkF m 1 #[.val (.ref xa), .val .null, .unset] [.null])) rfl rfl (hb hby de_1) _ ?_
    show Steps p.tables e below (s₁.setTop (mkF m 4 #[.val (.ref xa), .val .null, .unset] [(.int (0 : Int32))])) _
    refine XS.ifYes X0.here hx rfl (pc0 := 4) (pc' := 49) rfl (hb hby de_4) rfl ((if0 _ _).trans (teq (by decide : ((0 : Int32) = (0 : Int32)))).1) (by decide) (by decide) ?_
    show Steps p.tables e below (s₁.setTop (mkF m 49 #[.val (.ref xa), .val .null, .unset] [])) _
    refine XS.iconst X0.here hx rfl (hb hby de_49) ?_
    show Steps p.tables e below (s₁.setTop (mkF m 50 #[.val (.ref xa), .val .null, .unset] [(.int (0 : Int32))])) _
    exact k
  obtain ⟨fs, hr, hrun, hended, hW, hsame⟩ := X0.leave (v := some (.int (0 : Int32))) (fun h => by rw [Bd.returns] at h; cases h)
  refine ⟨_, _, A75 _ ?_, hrun, hended, _, _, rfl, ?_, ⟨_, rfl⟩, hW, hsame.mono (by decide) (by decide)⟩
  · exact retN X0 hx (t := .boolean) Bd.returns (by simp) (hb hby de_50) hr
  · show own_eqN_Q Z xa h0 n0 _ s₁.heap _
    rw [e0]
    exact ⟨rfl, N0, rfl⟩
def own_eqS_Q (Z : State) (xa xb : Addr) (y0 y1 y2 z0 z1 z2 : Int32) (h0 : Heap) (n0 : Nat) (v : Option Value) (h : Heap) (L : List Loc) : Prop := v = some (.int (own_eqv xa xb y0 y1 y2 z0 z1 z2)) ∧ Fr n0 L ∧ h = h0
theorem own_eqS_ef (m : MethodId) (x0 : Addr) (x1 : Addr) : entryFrame m #[(.ref x0), (.ref x1)] 3 = mkF m 0 #[.val (.ref x0), .val (.ref x1), .unset] [] := by first | (simp [entryFrame, mkF, argsToLocals, Value.category]; done) | rfl
set_option maxRecDepth 65536 in
set_option maxHeartbeats 40000000 in
theorem own_eqS (l : Launch) (Z : State) (a0 : Array Value) (hw : ∀ d ∈ tables_1, d.before a0 Z = true) (ws : List Jvm.Cond) (xa xb : Addr) (y0 y1 y2 z0 z1 z2 : Int32) (h0 : Heap) (n0 : Nat) (Z0 : n0 ≤ h0.size) (EB : Exa Z h0 xb "com/example/halflight/halflight/Move") (A0_ : Fld Z h0 xa "com/example/halflight/halflight/Move" "process" "I" (.int y0)) (B0_ : Fld Z h0 xb "com/example/halflight/halflight/Move" "process" "I" (.int z0)) (A1_ : Fld Z h0 xa "com/example/halflight/halflight/Move" "way" "I" (.int y1)) (B1_ : Fld Z h0 xb "com/example/halflight/halflight/Move" "way" "I" (.int z1)) (A2_ : Fld Z h0 xa "com/example/halflight/halflight/Move" "unknown" "Z" (.int y2)) (B2_ : Fld Z h0 xb "com/example/halflight/halflight/Move" "unknown" "Z" (.int z2)) :
    MetFree l (⟨"com/example/halflight/halflight/Move", "equals", "(Ljava/lang/Object;)Z"⟩ : MethodName) (head1 (Jvm.Cond.code (⟨"com/example/halflight/halflight/Move", "equals", "(Ljava/lang/Object;)Z"⟩ : MethodName) prog_34_method_2_code 3 (some .boolean) :: ws) ({ frames := 0, cells := 0, slots := 0, locals := 0 } : Room)) (fun a U => a = #[(.ref xa), (.ref xb)] ∧ Z.Warmed39 U.vm ∧ U.heap = h0) (fun _ _ _ _ _ => True) (fun _ U o U' => ∃ v L, o = .returned v ∧ own_eqS_Q Z xa xb y0 y1 y2 z0 z1 z2 h0 n0 v U'.heap L ∧ FrameEnd U o U' L ({ frames := 0, cells := 0, slots := 0, locals := 0 } : Room).cells ({ frames := 0, cells := 0, slots := 0, locals := 0 } : Room).slots) := by
  refine MetFree.of_bodySF (plainFor_of_name own_pn2) hisR ?_
  intro p e s m args below meth c s₁ Bd hml0 hP hK
  obtain ⟨rfl, hZ, hh⟩ := hP
  have hx := Bd.exec
  have hby := Bd.bytes
  have hml : c.maxLocals = 3 := hml0
  have hown : s.vm.findClass "com/example/halflight/halflight/Move" = some m.cls := findClass_of_methodNamed Bd.named
  have hnm := (name_of_methodNamed Bd.named Bd.method).1
  have X0 : Stand p l e ({ frames := 0, cells := 0, slots := 0, locals := 0 } : Room) s m #[(.ref xa), (.ref xb)] below meth c s₁ [] 0 0 := Stand.of_body Bd
  have e0 : s₁.heap = h0 := by rw [← hh, Bd.state]; rfl
  have N0 := Fr.nil n0
  have A0 : ∀ t, Steps p.tables e below (s₁.setTop (mkF m 0 #[.val (.ref xa), .val (.ref xb), .unset] [])) t → Steps p.tables e below (s₁.setTop (entryFrame m #[(.ref xa), (.ref xb)] 3)) t := fun t k => castTop (own_eqS_ef m xa xb) k
  have A76 : ∀ t, Steps p.tables e below (s₁.setTop (mkF m 1 #[.val (.ref xa), .val (.ref xb), .unset] [(.ref xb)])) t → Steps p.tables e below (s₁.setTop (entryFrame m #[(.ref xa), (.ref xb)] 3)) t := by
    intro t k
    refine A0 _ ?_
    refine XS.aloadN X0.here hx rfl (hb hby de_0) rfl rfl ?_
    show Steps p.tables e below (s₁.setTop (mkF m 1 #[.val (.ref xa), .val (.ref xb), .unset] [(.ref xb)])) _
    exact k
  obtain ⟨T77, X77, e77, st77⟩ := instY X0 hx hZ hown (hw _ (List.mem_of_getElem? (i := 32) rfl)) e0 (Ins.self EB) (g := (mkF m 1 #[.val (.ref xa), .val (.ref xb), .unset] [(.ref xb)])) rfl rfl (hb hby de_1)
  have A78 : ∀ t, Steps p.tables e below (T77.setTop (mkF m 8 #[.val (.ref xa), .val (.ref xb), .unset] [(.ref xb)])) t → Steps p.tables e below (s₁.setTop (entryFrame m #[(.ref xa), (.ref xb)] 3)) t := by
    intro t k
    refine A76 _ ?_
    refine st77 _ ?_
    show Steps p.tables e below (T77.setTop (mkF m 4 #[.val (.ref xa), .val (.ref xb), .unset] [(.int (1 : Int32))])) _
    refine XS.ifNo X77.here hx rfl (hb hby de_4) rfl ((if0 _ _).trans (feq (by decide : ¬ ((1 : Int32) = (0 : Int32)))).1) ?_
    show Steps p.tables e below (T77.setTop (mkF m 7 #[.val (.ref xa), .val (.ref xb), .unset] [])) _
    refine XS.aloadN X77.here hx rfl (hb hby de_7) rfl rfl ?_
    show Steps p.tables e below (T77.setTop (mkF m 8 #[.val (.ref xa), .val (.ref xb), .unset] [(.ref xb)])) _
    exact k
  obtain ⟨T79, X79, e79, st79⟩ := castY X77 hx hZ hown (hw _ (List.mem_of_getElem? (i := 32) rfl)) e77 (Ins.self EB) (g := (mkF m 8 #[.val (.ref xa), .val (.ref xb), .unset] [(.ref xb)])) rfl rfl (hb hby de_8)
  have A80 : ∀ t, Steps p.tables e below (T79.setTop (mkF m 13 #[.val (.ref xa), .val (.ref xb), .val (.ref xb)] [(.ref xa)])) t → Steps p.tables e below (s₁.setTop (entryFrame m #[(.ref xa), (.ref xb)] 3)) t := by
    intro t k
    refine A78 _ ?_
    refine st79 _ ?_
    show Steps p.tables e below (T79.setTop (mkF m 11 #[.val (.ref xa), .val (.ref xb), .unset] [(.ref xb)])) _
    refine XS.astoreN X79.here hx rfl (hb hby de_11) rfl rfl (l' := #[.val (.ref xa), .val (.ref xb), .val (.ref xb)]) rfl ?_
    show Steps p.tables e below (T79.setTop (mkF m 12 #[.val (.ref xa), .val (.ref xb), .val (.ref xb)] [])) _
    refine XS.aloadN X79.here hx rfl (hb hby de_12) rfl rfl ?_
    show Steps p.tables e below (T79.setTop (mkF m 13 #[.val (.ref xa), .val (.ref xb), .val (.ref xb)] [(.ref xa)])) _
    exact k
  obtain ⟨T81, X81, e81, st81⟩ := getF X79 hx hZ hown (host := "") (Or.inl (hw _ (List.mem_of_getElem? (i := 14) rfl))) Via.refl e79 A0_ (g := (mkF m 13 #[.val (.ref xa), .val (.ref xb), .val (.ref xb)] [(.ref xa)])) rfl rfl (hb hby de_13)
  have A82 : ∀ t, Steps p.tables e below (T81.setTop (mkF m 17 #[.val (.ref xa), .val (.ref xb), .val (.ref xb)] [(.ref xb), (.int y0)])) t → Steps p.tables e below (s₁.setTop (entryFrame m #[(.ref xa), (.ref xb)] 3)) t := by
    intro t k
    refine A80 _ ?_
    refine st81 _ ?_
    show Steps p.tables e below (T81.setTop (mkF m 16 #[.val (.ref xa), .val (.ref xb), .val (.ref xb)] [(.int y0)])) _
    refine XS.aloadN X81.here hx rfl (hb hby de_16) rfl rfl ?_
    show Steps p.tables e below (T81.setTop (mkF m 17 #[.val (.ref xa), .val (.ref xb), .val (.ref xb)] [(.ref xb), (.int y0)])) _
    exact k
  obtain ⟨T83, X83, e83, st83⟩ := getF X81 hx hZ hown (host := "") (Or.inl (hw _ (List.mem_of_getElem? (i := 14) rfl))) Via.refl e81 B0_ (g := (mkF m 17 #[.val (.ref xa), .val (.ref xb), .val (.ref xb)] [(.ref xb), (.int y0)])) rfl rfl (hb hby de_17)
  have A84 : ∀ t, Steps p.tables e below (T83.setTop (mkF m 20 #[.val (.ref xa), .val (.ref xb), .val (.ref xb)] [(.int z0), (.int y0)])) t → Steps p.tables e below (s₁.setTop (entryFrame m #[(.ref xa), (.ref xb)] 3)) t := by
    intro t k
    refine A82 _ ?_
    refine st83 _ ?_
    show Steps p.tables e below (T83.setTop (mkF m 20 #[.val (.ref xa), .val (.ref xb), .val (.ref xb)] [(.int z0), (.int y0)])) _
    exact k
  by_cases hc85 : y0 = z0
  · have A86 : ∀ t, Steps p.tables e below (T83.setTop (mkF m 24 #[.val (.ref xa), .val (.ref xb), .val (.ref xb)] [(.ref xa)])) t → Steps p.tables e below (s₁.setTop (entryFrame m #[(.ref xa), (.ref xb)] 3)) t := by
      intro t k
      refine A84 _ ?_
      refine XS.icmpNo X83.here hx rfl (hb hby de_20) rfl (teq hc85).2 ?_
      show Steps p.tables e below (T83.setTop (mkF m 23 #[.val (.ref xa), .val (.ref xb), .val (.ref xb)] [])) _
      refine XS.aloadN X83.here hx rfl (hb hby de_23) rfl rfl ?_
      show Steps p.tables e below (T83.setTop (mkF m 24 #[.val (.ref xa), .val (.ref xb), .val (.ref xb)] [(.ref xa)])) _
      exact k
    obtain ⟨T87, X87, e87, st87⟩ := getF X83 hx hZ hown (host := "") (Or.inl (hw _ (List.mem_of_getElem? (i := 16) rfl))) Via.refl e83 A1_ (g := (mkF m 24 #[.val (.ref xa), .val (.ref xb), .val (.ref xb)] [(.ref xa)])) rfl rfl (hb hby de_24)
    have A88 : ∀ t, Steps p.tables e below (T87.setTop (mkF m 28 #[.val (.ref xa), .val (.ref xb), .val (.ref xb)] [(.ref xb), (.int y1)])) t → Steps p.tables e below (s₁.setTop (entryFrame m #[(.ref xa), (.ref xb)] 3)) t := by
      intro t k
      refine A86 _ ?_
      refine st87 _ ?_
      show Steps p.tables e below (T87.setTop (mkF m 27 #[.val (.ref xa), .val (.ref xb), .val (.ref xb)] [(.int y1)])) _
      refine XS.aloadN X87.here hx rfl (hb hby de_27) rfl rfl ?_
      show Steps p.tables e below (T87.setTop (mkF m 28 #[.val (.ref xa), .val (.ref xb), .val (.ref xb)] [(.ref xb), (.int y1)])) _
      exact k
    obtain ⟨T89, X89, e89, st89⟩ := getF X87 hx hZ hown (host := "") (Or.inl (hw _ (List.mem_of_getElem? (i := 16) rfl))) Via.refl e87 B1_ (g := (mkF m 28 #[.val (.ref xa), .val (.ref xb), .val (.ref xb)] [(.ref xb), (.int y1)])) rfl rfl (hb hby de_28)
    have A90 : ∀ t, Steps p.tables e below (T89.setTop (mkF m 31 #[.val (.ref xa), .val (.ref xb), .val (.ref xb)] [(.int z1), (.int y1)])) t → Steps p.tables e below (s₁.setTop (entryFrame m #[(.ref xa), (.ref xb)] 3)) t := by
      intro t k
      refine A88 _ ?_
      refine st89 _ ?_
      show Steps p.tables e below (T89.setTop (mkF m 31 #[.val (.ref xa), .val (.ref xb), .val (.ref xb)] [(.int z1), (.int y1)])) _
      exact k
    by_cases hc91 : y1 = z1
    · have A92 : ∀ t, Steps p.tables e below (T89.setTop (mkF m 35 #[.val (.ref xa), .val (.ref xb), .val (.ref xb)] [(.ref xa)])) t → Steps p.tables e below (s₁.setTop (entryFrame m #[(.ref xa), (.ref xb)] 3)) t := by
        intro t k
        refine A90 _ ?_
        refine XS.icmpNo X89.here hx rfl (hb hby de_31) rfl (teq hc91).2 ?_
        show Steps p.tables e below (T89.setTop (mkF m 34 #[.val (.ref xa), .val (.ref xb), .val (.ref xb)] [])) _
        refine XS.aloadN X89.here hx rfl (hb hby de_34) rfl rfl ?_
        show Steps p.tables e below (T89.setTop (mkF m 35 #[.val (.ref xa), .val (.ref xb), .val (.ref xb)] [(.ref xa)])) _
        exact k
      obtain ⟨T93, X93, e93, st93⟩ := getF X89 hx hZ hown (host := "") (Or.inl (hw _ (List.mem_of_getElem? (i := 18) rfl))) Via.refl e89 A2_ (g := (mkF m 35 #[.val (.ref xa), .val (.ref xb), .val (.ref xb)] [(.ref xa)])) rfl rfl (hb hby de_35)
      have A94 : ∀ t, Steps p.tables e below (T93.setTop (mkF m 39 #[.val (.ref xa), .val (.ref xb), .val (.ref xb)] [(.ref xb), (.int y2)])) t → Steps p.tables e below (s₁.setTop (entryFrame m #[(.ref xa), (.ref xb)] 3)) t := by
        intro t k
        refine A92 _ ?_
        refine st93 _ ?_
        show Steps p.tables e below (T93.setTop (mkF m 38 #[.val (.ref xa), .val (.ref xb), .val (.ref xb)] [(.int y2)])) _
        refine XS.aloadN X93.here hx rfl (hb hby de_38) rfl rfl ?_
        show Steps p.tables e below (T93.setTop (mkF m 39 #[.val (.ref xa), .val (.ref xb), .val (.ref xb)] [(.ref xb), (.int y2)])) _
        exact k
      obtain ⟨T95, X95, e95, st95⟩ := getF X93 hx hZ hown (host := "") (Or.inl (hw _ (List.mem_of_getElem? (i := 18) rfl))) Via.refl e93 B2_ (g := (mkF m 39 #[.val (.ref xa), .val (.ref xb), .val (.ref xb)] [(.ref xb), (.int y2)])) rfl rfl (hb hby de_39)
      have A96 : ∀ t, Steps p.tables e below (T95.setTop (mkF m 42 #[.val (.ref xa), .val (.ref xb), .val (.ref xb)] [(.int z2), (.int y2)])) t → Steps p.tables e below (s₁.setTop (entryFrame m #[(.ref xa), (.ref xb)] 3)) t := by
        intro t k
        refine A94 _ ?_
        refine st95 _ ?_
        show Steps p.tables e below (T95.setTop (mkF m 42 #[.val (.ref xa), .val (.ref xb), .val (.ref xb)] [(.int z2), (.int y2)])) _
        exact k
      by_cases hc97 : y2 = z2
      · have A98 : ∀ t, Steps p.tables e below (T95.setTop (mkF m 50 #[.val (.ref xa), .val (.ref xb), .val (.ref xb)] [(.int (1 : Int32))])) t → Steps p.tables e below (s₁.setTop (entryFrame m #[(.ref xa), (.ref xb)] 3)) t := by
          intro t k
          refine A96 _ ?_
          refine XS.icmpNo X95.here hx rfl (hb hby de_42) rfl (teq hc97).2 ?_
          show Steps p.tables e below (T95.setTop (mkF m 45 #[.val (.ref xa), .val (.ref xb), .val (.ref xb)] [])) _
          refine XS.iconst X95.here hx rfl (hb hby de_45) ?_
          show Steps p.tables e below (T95.setTop (mkF m 46 #[.val (.ref xa), .val (.ref xb), .val (.ref xb)] [(.int (1 : Int32))])) _
          refine XS.goto X95.here hx rfl (pc0 := 46) (pc' := 50) rfl (hb hby de_46) (by decide) (by decide) ?_
          show Steps p.tables e below (T95.setTop (mkF m 50 #[.val (.ref xa), .val (.ref xb), .val (.ref xb)] [(.int (1 : Int32))])) _
          exact k
        obtain ⟨fs, hr, hrun, hended, hW, hsame⟩ := X95.leave (v := some (.int (1 : Int32))) (fun h => by rw [Bd.returns] at h; cases h)
        refine ⟨_, _, A98 _ ?_, hrun, hended, _, _, rfl, ?_, ⟨_, rfl⟩, hW, hsame.mono (by decide) (by decide)⟩
        · exact retN X95 hx (t := .boolean) Bd.returns (by simp) (hb hby de_50) hr
        · show own_eqS_Q Z xa xb y0 y1 y2 z0 z1 z2 h0 n0 _ T95.heap _
          rw [e95]
          exact ⟨by simp [own_eqv, hc85, hc91, hc97], N0, rfl⟩
      · have A99 : ∀ t, Steps p.tables e below (T95.setTop (mkF m 50 #[.val (.ref xa), .val (.ref xb), .val (.ref xb)] [(.int (0 : Int32))])) t → Steps p.tables e below (s₁.setTop (entryFrame m #[(.ref xa), (.ref xb)] 3)) t := by
          intro t k
          refine A96 _ ?_
          refine XS.icmpYes X95.here hx rfl (pc0 := 42) (pc' := 49) rfl (hb hby de_42) rfl (feq hc97).2 (by decide) (by decide) ?_
          show Steps p.tables e below (T95.setTop (mkF m 49 #[.val (.ref xa), .val (.ref xb), .val (.ref xb)] [])) _
          refine XS.iconst X95.here hx rfl (hb hby de_49) ?_
          show Steps p.tables e below (T95.setTop (mkF m 50 #[.val (.ref xa), .val (.ref xb), .val (.ref xb)] [(.int (0 : Int32))])) _
          exact k
        obtain ⟨fs, hr, hrun, hended, hW, hsame⟩ := X95.leave (v := some (.int (0 : Int32))) (fun h => by rw [Bd.returns] at h; cases h)
        refine ⟨_, _, A99 _ ?_, hrun, hended, _, _, rfl, ?_, ⟨_, rfl⟩, hW, hsame.mono (by decide) (by decide)⟩
        · exact retN X95 hx (t := .boolean) Bd.returns (by simp) (hb hby de_50) hr
        · show own_eqS_Q Z xa xb y0 y1 y2 z0 z1 z2 h0 n0 _ T95.heap _
          rw [e95]
          exact ⟨by simp [own_eqv, hc85, hc91, hc97], N0, rfl⟩
    · have A100 : ∀ t, Steps p.tables e below (T89.setTop (mkF m 50 #[.val (.ref xa), .val (.ref xb), .val (.ref xb)] [(.int (0 : Int32))])) t → Steps p.tables e below (s₁.setTop (entryFrame m #[(.ref xa), (.ref xb)] 3)) t := by
        intro t k
        refine A90 _ ?_
        refine XS.icmpYes X89.here hx rfl (pc0 := 31) (pc' := 49) rfl (hb hby de_31) rfl (feq hc91).2 (by decide) (by decide) ?_
        show Steps p.tables e below (T89.setTop (mkF m 49 #[.val (.ref xa), .val (.ref xb), .val (.ref xb)] [])) _
        refine XS.iconst X89.here hx rfl (hb hby de_49) ?_
        show Steps p.tables e below (T89.setTop (mkF m 50 #[.val (.ref xa), .val (.ref xb), .val (.ref xb)] [(.int (0 : Int32))])) _
        exact k
      obtain ⟨fs, hr, hrun, hended, hW, hsame⟩ := X89.leave (v := some (.int (0 : Int32))) (fun h => by rw [Bd.returns] at h; cases h)
      refine ⟨_, _, A100 _ ?_, hrun, hended, _, _, rfl, ?_, ⟨_, rfl⟩, hW, hsame.mono (by decide) (by decide)⟩
      · exact retN X89 hx (t := .boolean) Bd.returns (by simp) (hb hby de_50) hr
      · show own_eqS_Q Z xa xb y0 y1 y2 z0 z1 z2 h0 n0 _ T89.heap _
        rw [e89]
        exact ⟨by simp [own_eqv, hc85, hc91], N0, rfl⟩
  · have A101 : ∀ t, Steps p.tables e below (T83.setTop (mkF m 50 #[.val (.ref xa), .val (.ref xb), .val (.ref xb)] [(.int (0 : Int32))])) t → Steps p.tables e below (s₁.setTop (entryFrame m #[(.ref xa), (.ref xb)] 3)) t := by
      intro t k
      refine A84 _ ?_
      refine XS.icmpYes X83.here hx rfl (pc0 := 20) (pc' := 49) rfl (hb hby de_20) rfl (feq hc85).2 (by decide) (by decide) ?_
      show Steps p.tables e below (T83.setTop (mkF m 49 #[.val (.ref xa), .val (.ref xb), .val (.ref xb)] [])) _
      refine XS.iconst X83.here hx rfl (hb hby de_49) ?_
      show Steps p.tables e below (T83.setTop (mkF m 50 #[.val (.ref xa), .val (.ref xb), .val (.ref xb)] [(.int (0 : Int32))])) _
      exact k
    obtain ⟨fs, hr, hrun, hended, hW, hsame⟩ := X83.leave (v := some (.int (0 : Int32))) (fun h => by rw [Bd.returns] at h; cases h)
    refine ⟨_, _, A101 _ ?_, hrun, hended, _, _, rfl, ?_, ⟨_, rfl⟩, hW, hsame.mono (by decide) (by decide)⟩
    · exact retN X83 hx (t := .boolean) Bd.returns (by simp) (hb hby de_50) hr
    · show own_eqS_Q Z xa xb y0 y1 y2 z0 z1 z2 h0 n0 _ T83.heap _
      rw [e83]
      exact ⟨by simp [own_eqv, hc85], N0, rfl⟩
def own_eqI_Q (Z : State) (xa xb : Addr) (h0 : Heap) (n0 : Nat) (v : Option Value) (h : Heap) (L : List Loc) : Prop := v = some (.int (0)) ∧ Fr n0 L ∧ h = h0
theorem own_eqI_ef (m : MethodId) (x0 : Addr) (x1 : Addr) : entryFrame m #[(.ref x0), (.ref x1)] 3 = mkF m 0 #[.val (.ref x0), .val (.ref x1), .unset] [] := by first | (simp [entryFrame, mkF, argsToLocals, Value.category]; done) | rfl
set_option maxRecDepth 65536 in
set_option maxHeartbeats 40000000 in
theorem own_eqI (l : Launch) (Z : State) (a0 : Array Value) (hw : ∀ d ∈ tables_1, d.before a0 Z = true) (ws : List Jvm.Cond) (xa xb : Addr) (h0 : Heap) (n0 : Nat) (Z0 : n0 ≤ h0.size) (EA : Exa Z h0 xa "com/example/halflight/halflight/Move") (EB : Exa Z h0 xb "java/lang/Integer") :
    MetFree l (⟨"com/example/halflight/halflight/Move", "equals", "(Ljava/lang/Object;)Z"⟩ : MethodName) (head1 (Jvm.Cond.code (⟨"com/example/halflight/halflight/Move", "equals", "(Ljava/lang/Object;)Z"⟩ : MethodName) prog_34_method_2_code 3 (some .boolean) :: ws) ({ frames := 0, cells := 0, slots := 0, locals := 0 } : Room)) (fun a U => a = #[(.ref xa), (.ref xb)] ∧ Z.Warmed39 U.vm ∧ U.heap = h0) (fun _ _ _ _ _ => True) (fun _ U o U' => ∃ v L, o = .returned v ∧ own_eqI_Q Z xa xb h0 n0 v U'.heap L ∧ FrameEnd U o U' L ({ frames := 0, cells := 0, slots := 0, locals := 0 } : Room).cells ({ frames := 0, cells := 0, slots := 0, locals := 0 } : Room).slots) := by
  refine MetFree.of_bodySF (plainFor_of_name own_pn2) hisR ?_
  intro p e s m args below meth c s₁ Bd hml0 hP hK
  obtain ⟨rfl, hZ, hh⟩ := hP
  have hx := Bd.exec
  have hby := Bd.bytes
  have hml : c.maxLocals = 3 := hml0
  have hown : s.vm.findClass "com/example/halflight/halflight/Move" = some m.cls := findClass_of_methodNamed Bd.named
  have hnm := (name_of_methodNamed Bd.named Bd.method).1
  have X0 : Stand p l e ({ frames := 0, cells := 0, slots := 0, locals := 0 } : Room) s m #[(.ref xa), (.ref xb)] below meth c s₁ [] 0 0 := Stand.of_body Bd
  have e0 : s₁.heap = h0 := by rw [← hh, Bd.state]; rfl
  have N0 := Fr.nil n0
  have A0 : ∀ t, Steps p.tables e below (s₁.setTop (mkF m 0 #[.val (.ref xa), .val (.ref xb), .unset] [])) t → Steps p.tables e below (s₁.setTop (entryFrame m #[(.ref xa), (.ref xb)] 3)) t := fun t k => castTop (own_eqI_ef m xa xb) k
  have A102 : ∀ t, Steps p.tables e below (s₁.setTop (mkF m 1 #[.val (.ref xa), .val (.ref xb), .unset] [(.ref xb)])) t → Steps p.tables e below (s₁.setTop (entryFrame m #[(.ref xa), (.ref xb)] 3)) t := by
    intro t k
    refine A0 _ ?_
    refine XS.aloadN X0.here hx rfl (hb hby de_0) rfl rfl ?_
    show Steps p.tables e below (s₁.setTop (mkF m 1 #[.val (.ref xa), .val (.ref xb), .unset] [(.ref xb)])) _
    exact k
  obtain ⟨T103, X103, e103, st103⟩ := instNo X0 hx hZ hown (hw _ (List.mem_of_getElem? (i := 32) rfl)) e0 EB (own_no (hw _ (List.mem_of_getElem? (i := 34) rfl)) (hw _ (List.mem_of_getElem? (i := 1) rfl)) (NS.step (hw _ (List.mem_of_getElem? (i := 34) rfl)) (NS.step (hw _ (List.mem_of_getElem? (i := 35) rfl)) (own_root (hw _ (List.mem_of_getElem? (i := 36) rfl)) (hw _ (List.mem_of_getElem? (i := 1) rfl)) (by decide)) (by decide)) (by decide)) (by decide)) (g := (mkF m 1 #[.val (.ref xa), .val (.ref xb), .unset] [(.ref xb)])) rfl rfl (hb hby de_1)
  have A104 : ∀ t, Steps p.tables e below (T103.setTop (mkF m 50 #[.val (.ref xa), .val (.ref xb), .unset] [(.int (0 : Int32))])) t → Steps p.tables e below (s₁.setTop (entryFrame m #[(.ref xa), (.ref xb)] 3)) t := by
    intro t k
    refine A102 _ ?_
    refine st103 _ ?_
    show Steps p.tables e below (T103.setTop (mkF m 4 #[.val (.ref xa), .val (.ref xb), .unset] [(.int (0 : Int32))])) _
    refine XS.ifYes X103.here hx rfl (pc0 := 4) (pc' := 49) rfl (hb hby de_4) rfl ((if0 _ _).trans (teq (by decide : ((0 : Int32) = (0 : Int32)))).1) (by decide) (by decide) ?_
    show Steps p.tables e below (T103.setTop (mkF m 49 #[.val (.ref xa), .val (.ref xb), .unset] [])) _
    refine XS.iconst X103.here hx rfl (hb hby de_49) ?_
    show Steps p.tables e below (T103.setTop (mkF m 50 #[.val (.ref xa), .val (.ref xb), .unset] [(.int (0 : Int32))])) _
    exact k
  obtain ⟨fs, hr, hrun, hended, hW, hsame⟩ := X103.leave (v := some (.int (0 : Int32))) (fun h => by rw [Bd.returns] at h; cases h)
  refine ⟨_, _, A104 _ ?_, hrun, hended, _, _, rfl, ?_, ⟨_, rfl⟩, hW, hsame.mono (by decide) (by decide)⟩
  · exact retN X103 hx (t := .boolean) Bd.returns (by simp) (hb hby de_50) hr
  · show own_eqI_Q Z xa xb h0 n0 _ T103.heap _
    rw [e103]
    exact ⟨rfl, N0, rfl⟩
def own_Q0 (Z : State) (x1 x2 x3 x4 x5 : Int32) (h0 : Heap) (n0 : Nat) (v : Option Value) (h : Heap) (L : List Loc) : Prop := v = some (.int 1) ∧ Fr n0 L
theorem own_law_ef (m : MethodId) (x0 : Int32) (x1 : Int32) (x2 : Int32) (x3 : Int32) (x4 : Int32) : entryFrame m #[(.int x0), (.int x1), (.int x2), (.int x3), (.int x4)] maxLocals = mkF m 0 #[.val (.int x0), .val (.int x1), .val (.int x2), .val (.int x3), .val (.int x4), .unset, .unset, .unset, .unset, .unset, .unset, .unset, .unset, .unset, .unset, .unset, .unset, .unset, .unset] [] := by first | (simp [entryFrame, mkF, argsToLocals, Value.category, maxLocals]; done) | rfl
set_option maxRecDepth 65536 in
set_option maxHeartbeats 40000000 in
theorem own_law (l : Launch) (Z : State) (a0 : Array Value) (hw : ∀ d ∈ tables_1, d.before a0 Z = true) (ws : List Jvm.Cond) (x1 x2 x3 x4 x5 : Int32) (vc : Addr) (cc : Cell) (h0 : Heap) (n0 : Nat) (Z0 : n0 ≤ h0.size) (SH : Sta Z Z.heap "java/lang/Integer$IntegerCache" "high" "I" (.int (127 : Int32))) (SC : Sta Z Z.heap "java/lang/Integer$IntegerCache" "cache" "[Ljava/lang/Integer;" (.ref vc)) (AC : Arr Z Z.heap vc cc (.object "java/lang/Integer")) (sz : cc.slots.size = 256) (hel : ∀ j : Int32, ¬ (j < 0 ∨ cc.slots.size ≤ j.toNatClampNeg) → ∃ r : Addr, cc.slots[j.toNatClampNeg]? = some (.ref r) ∧ Exa Z Z.heap r "java/lang/Integer") (O0 : Old Z n0 h0) :
    MetFree l x (head1 (Jvm.Cond.code x code maxLocals ret :: ws) room_1) (fun a U => a = #[(.int x1), (.int x2), (.int x3), (.int x4), (.int x5)] ∧ Z.Warmed39 U.vm ∧ U.heap = h0) (fun _ _ _ _ _ => True) (fun _ U o U' => ∃ v L, o = .returned v ∧ own_Q0 Z x1 x2 x3 x4 x5 h0 n0 v U'.heap L ∧ FrameEnd U o U' L room_1.cells room_1.slots) := by
  refine MetFree.of_bodySF (plainFor_of_name own_pn4) hisR ?_
  intro p e s m args below meth c s₁ Bd hml0 hP hK
  obtain ⟨rfl, hZ, hh⟩ := hP
  have hx := Bd.exec
  have hby := Bd.bytes
  have hml : c.maxLocals = 19 := hml0
  have hown : s.vm.findClass "com/example/halflight/halflight/MoveEqualsPinLaw" = some m.cls := findClass_of_methodNamed Bd.named
  have hnm := (name_of_methodNamed Bd.named Bd.method).1
  have X0 : Stand p l e room_1 s m #[(.int x1), (.int x2), (.int x3), (.int x4), (.int x5)] below meth c s₁ [] 0 0 := Stand.of_body Bd
  have e0 : s₁.heap = h0 := by rw [← hh, Bd.state]; rfl
  have N0 := Fr.nil n0
  have A0 : ∀ t, Steps p.tables e below (s₁.setTop (mkF m 0 #[.val (.int x1), .val (.int x2), .val (.int x3), .val (.int x4), .val (.int x5), .unset, .unset, .unset, .unset, .unset, .unset, .unset, .unset, .unset, .unset, .unset, .unset, .unset, .unset] [])) t → Steps p.tables e below (s₁.setTop (entryFrame m #[(.int x1), (.int x2), (.int x3), (.int x4), (.int x5)] maxLocals)) t := fun t k => castTop (own_law_ef m x1 x2 x3 x4 x5) k
  have A105 : ∀ t, Steps p.tables e below (s₁.setTop (mkF m 3 #[.val (.int x1), .val (.int x2), .val (.int x3), .val (.int x4), .val (.int x5), .unset, .unset, .unset, .unset, .unset, .unset, .unset, .unset, .unset, .unset, .unset, .unset, .unset, .unset] [(.int (x3 &&& (1 : Int32)))])) t → Steps p.tables e below (s₁.setTop (entryFrame m #[(.int x1), (.int x2), (.int x3), (.int x4), (.int x5)] maxLocals)) t := by
    intro t k
    refine A0 _ ?_
    refine XS.iloadN X0.here hx rfl (hb hby at_0) rfl ?_
    show Steps p.tables e below (s₁.setTop (mkF m 1 #[.val (.int x1), .val (.int x2), .val (.int x3), .val (.int x4), .val (.int x5), .unset, .unset, .unset, .unset, .unset, .unset, .unset, .unset, .unset, .unset, .unset, .unset, .unset, .unset] [(.int x3)])) _
    refine XS.iconst X0.here hx rfl (hb hby at_1) ?_
    show Steps p.tables e below (s₁.setTop (mkF m 2 #[.val (.int x1), .val (.int x2), .val (.int x3), .val (.int x4), .val (.int x5), .unset, .unset, .unset, .unset, .unset, .unset, .unset, .unset, .unset, .unset, .unset, .unset, .unset, .unset] [(.int (1 : Int32)), (.int x3)])) _
    refine XS.iand X0.here hx rfl (hb hby at_2) rfl ?_
    show Steps p.tables e below (s₁.setTop (mkF m 3 #[.val (.int x1), .val (.int x2), .val (.int x3), .val (.int x4), .val (.int x5), .unset, .unset, .unset, .unset, .unset, .unset, .unset, .unset, .unset, .unset, .unset, .unset, .unset, .unset] [(.int (x3 &&& (1 : Int32)))])) _
    exact k
  obtain ⟨u107, hu107⟩ : ∃ u : Int32, u = (if (x3 &&& (1 : Int32)) = (0 : Int32) then (0 : Int32) else (1 : Int32)) := ⟨_, rfl⟩
  have A108 : ∀ t, Steps p.tables e below (s₁.setTop (mkF m 11 #[.val (.int x1), .val (.int x2), .val (.int x3), .val (.int x4), .val (.int x5), .unset, .unset, .unset, .unset, .unset, .unset, .unset, .unset, .unset, .unset, .unset, .unset, .unset, .unset] [(.int u107)])) t → Steps p.tables e below (s₁.setTop (entryFrame m #[(.int x1), (.int x2), (.int x3), (.int x4), (.int x5)] maxLocals)) t := by
    intro t k
    refine A105 _ ?_
    by_cases hj106 : (x3 &&& (1 : Int32)) = (0 : Int32)
    · refine XS.ifYes X0.here hx rfl (pc0 := 3) (pc' := 10) rfl (hb hby at_3) rfl ((if0 _ _).trans (teq hj106).1) (by decide) (by decide) ?_
      show Steps p.tables e below (s₁.setTop (mkF m 10 #[.val (.int x1), .val (.int x2), .val (.int x3), .val (.int x4), .val (.int x5), .unset, .unset, .unset, .unset, .unset, .unset, .unset, .unset, .unset, .unset, .unset, .unset, .unset, .unset] [])) _
      refine XS.iconst X0.here hx rfl (hb hby at_10) ?_
      show Steps p.tables e below (s₁.setTop (mkF m 11 #[.val (.int x1), .val (.int x2), .val (.int x3), .val (.int x4), .val (.int x5), .unset, .unset, .unset, .unset, .unset, .unset, .unset, .unset, .unset, .unset, .unset, .unset, .unset, .unset] [(.int (0 : Int32))])) _
      have qu107 : u107 = (0 : Int32) := by rw [hu107]; simp [hj106]
      rw [qu107] at k
      exact k
    · refine XS.ifNo X0.here hx rfl (hb hby at_3) rfl ((if0 _ _).trans (feq hj106).1) ?_
      show Steps p.tables e below (s₁.setTop (mkF m 6 #[.val (.int x1), .val (.int x2), .val (.int x3), .val (.int x4), .val (.int x5), .unset, .unset, .unset, .unset, .unset, .unset, .unset, .unset, .unset, .unset, .unset, .unset, .unset, .unset] [])) _
      refine XS.iconst X0.here hx rfl (hb hby at_6) ?_
      show Steps p.tables e below (s₁.setTop (mkF m 7 #[.val (.int x1), .val (.int x2), .val (.int x3), .val (.int x4), .val (.int x5), .unset, .unset, .unset, .unset, .unset, .unset, .unset, .unset, .unset, .unset, .unset, .unset, .unset, .unset] [(.int (1 : Int32))])) _
      refine XS.goto X0.here hx rfl (pc0 := 7) (pc' := 11) rfl (hb hby at_7) (by decide) (by decide) ?_
      show Steps p.tables e below (s₁.setTop (mkF m 11 #[.val (.int x1), .val (.int x2), .val (.int x3), .val (.int x4), .val (.int x5), .unset, .unset, .unset, .unset, .unset, .unset, .unset, .unset, .unset, .unset, .unset, .unset, .unset, .unset] [(.int (1 : Int32))])) _
      have qu107 : u107 = (1 : Int32) := by rw [hu107]; simp [hj106]
      rw [qu107] at k
      exact k
  have A109 : ∀ t, Steps p.tables e below (s₁.setTop (mkF m 16 #[.val (.int x1), .val (.int x2), .val (.int x3), .val (.int x4), .val (.int x5), .val (.int u107), .unset, .unset, .unset, .unset, .unset, .unset, .unset, .unset, .unset, .unset, .unset, .unset, .unset] [(.int (x3 &&& (2 : Int32)))])) t → Steps p.tables e below (s₁.setTop (entryFrame m #[(.int x1), (.int x2), (.int x3), (.int x4), (.int x5)] maxLocals)) t := by
    intro t k
    refine A108 _ ?_
    refine XS.istore X0.here hx rfl (hb hby at_11) rfl (l' := #[.val (.int x1), .val (.int x2), .val (.int x3), .val (.int x4), .val (.int x5), .val (.int u107), .unset, .unset, .unset, .unset, .unset, .unset, .unset, .unset, .unset, .unset, .unset, .unset, .unset]) rfl ?_
    show Steps p.tables e below (s₁.setTop (mkF m 13 #[.val (.int x1), .val (.int x2), .val (.int x3), .val (.int x4), .val (.int x5), .val (.int u107), .unset, .unset, .unset, .unset, .unset, .unset, .unset, .unset, .unset, .unset, .unset, .unset, .unset] [])) _
    refine XS.iloadN X0.here hx rfl (hb hby at_13) rfl ?_
    show Steps p.tables e below (s₁.setTop (mkF m 14 #[.val (.int x1), .val (.int x2), .val (.int x3), .val (.int x4), .val (.int x5), .val (.int u107), .unset, .unset, .unset, .unset, .unset, .unset, .unset, .unset, .unset, .unset, .unset, .unset, .unset] [(.int x3)])) _
    refine XS.iconst X0.here hx rfl (hb hby at_14) ?_
    show Steps p.tables e below (s₁.setTop (mkF m 15 #[.val (.int x1), .val (.int x2), .val (.int x3), .val (.int x4), .val (.int x5), .val (.int u107), .unset, .unset, .unset, .unset, .unset, .unset, .unset, .unset, .unset, .unset, .unset, .unset, .unset] [(.int (2 : Int32)), (.int x3)])) _
    refine XS.iand X0.here hx rfl (hb hby at_15) rfl ?_
    show Steps p.tables e below (s₁.setTop (mkF m 16 #[.val (.int x1), .val (.int x2), .val (.int x3), .val (.int x4), .val (.int x5), .val (.int u107), .unset, .unset, .unset, .unset, .unset, .unset, .unset, .unset, .unset, .unset, .unset, .unset, .unset] [(.int (x3 &&& (2 : Int32)))])) _
    exact k
  obtain ⟨u111, hu111⟩ : ∃ u : Int32, u = (if (x3 &&& (2 : Int32)) = (0 : Int32) then (0 : Int32) else x4) := ⟨_, rfl⟩
  have A112 : ∀ t, Steps p.tables e below (s₁.setTop (mkF m 24 #[.val (.int x1), .val (.int x2), .val (.int x3), .val (.int x4), .val (.int x5), .val (.int u107), .unset, .unset, .unset, .unset, .unset, .unset, .unset, .unset, .unset, .unset, .unset, .unset, .unset] [(.int u111)])) t → Steps p.tables e below (s₁.setTop (entryFrame m #[(.int x1), (.int x2), (.int x3), (.int x4), (.int x5)] maxLocals)) t := by
    intro t k
    refine A109 _ ?_
    by_cases hj110 : (x3 &&& (2 : Int32)) = (0 : Int32)
    · refine XS.ifYes X0.here hx rfl (pc0 := 16) (pc' := 23) rfl (hb hby at_16) rfl ((if0 _ _).trans (teq hj110).1) (by decide) (by decide) ?_
      show Steps p.tables e below (s₁.setTop (mkF m 23 #[.val (.int x1), .val (.int x2), .val (.int x3), .val (.int x4), .val (.int x5), .val (.int u107), .unset, .unset, .unset, .unset, .unset, .unset, .unset, .unset, .unset, .unset, .unset, .unset, .unset] [])) _
      refine XS.iconst X0.here hx rfl (hb hby at_23) ?_
      show Steps p.tables e below (s₁.setTop (mkF m 24 #[.val (.int x1), .val (.int x2), .val (.int x3), .val (.int x4), .val (.int x5), .val (.int u107), .unset, .unset, .unset, .unset, .unset, .unset, .unset, .unset, .unset, .unset, .unset, .unset, .unset] [(.int (0 : Int32))])) _
      have qu111 : u111 = (0 : Int32) := by rw [hu111]; simp [hj110]
      rw [qu111] at k
      exact k
    · refine XS.ifNo X0.here hx rfl (hb hby at_16) rfl ((if0 _ _).trans (feq hj110).1) ?_
      show Steps p.tables e below (s₁.setTop (mkF m 19 #[.val (.int x1), .val (.int x2), .val (.int x3), .val (.int x4), .val (.int x5), .val (.int u107), .unset, .unset, .unset, .unset, .unset, .unset, .unset, .unset, .unset, .unset, .unset, .unset, .unset] [])) _
      refine XS.iloadN X0.here hx rfl (hb hby at_19) rfl ?_
      show Steps p.tables e below (s₁.setTop (mkF m 20 #[.val (.int x1), .val (.int x2), .val (.int x3), .val (.int x4), .val (.int x5), .val (.int u107), .unset, .unset, .unset, .unset, .unset, .unset, .unset, .unset, .unset, .unset, .unset, .unset, .unset] [(.int x4)])) _
      refine XS.goto X0.here hx rfl (pc0 := 20) (pc' := 24) rfl (hb hby at_20) (by decide) (by decide) ?_
      show Steps p.tables e below (s₁.setTop (mkF m 24 #[.val (.int x1), .val (.int x2), .val (.int x3), .val (.int x4), .val (.int x5), .val (.int u107), .unset, .unset, .unset, .unset, .unset, .unset, .unset, .unset, .unset, .unset, .unset, .unset, .unset] [(.int x4)])) _
      have qu111 : u111 = x4 := by rw [hu111]; simp [hj110]
      rw [qu111] at k
      exact k
  have A113 : ∀ t, Steps p.tables e below (s₁.setTop (mkF m 29 #[.val (.int x1), .val (.int x2), .val (.int x3), .val (.int x4), .val (.int x5), .val (.int u107), .val (.int u111), .unset, .unset, .unset, .unset, .unset, .unset, .unset, .unset, .unset, .unset, .unset, .unset] [(.int (x3 &&& (4 : Int32)))])) t → Steps p.tables e below (s₁.setTop (entryFrame m #[(.int x1), (.int x2), (.int x3), (.int x4), (.int x5)] maxLocals)) t := by
    intro t k
    refine A112 _ ?_
    refine XS.istore X0.here hx rfl (hb hby at_24) rfl (l' := #[.val (.int x1), .val (.int x2), .val (.int x3), .val (.int x4), .val (.int x5), .val (.int u107), .val (.int u111), .unset, .unset, .unset, .unset, .unset, .unset, .unset, .unset, .unset, .unset, .unset, .unset]) rfl ?_
    show Steps p.tables e below (s₁.setTop (mkF m 26 #[.val (.int x1), .val (.int x2), .val (.int x3), .val (.int x4), .val (.int x5), .val (.int u107), .val (.int u111), .unset, .unset, .unset, .unset, .unset, .unset, .unset, .unset, .unset, .unset, .unset, .unset] [])) _
    refine XS.iloadN X0.here hx rfl (hb hby at_26) rfl ?_
    show Steps p.tables e below (s₁.setTop (mkF m 27 #[.val (.int x1), .val (.int x2), .val (.int x3), .val (.int x4), .val (.int x5), .val (.int u107), .val (.int u111), .unset, .unset, .unset, .unset, .unset, .unset, .unset, .unset, .unset, .unset, .unset, .unset] [(.int x3)])) _
    refine XS.iconst X0.here hx rfl (hb hby at_27) ?_
    show Steps p.tables e below (s₁.setTop (mkF m 28 #[.val (.int x1), .val (.int x2), .val (.int x3), .val (.int x4), .val (.int x5), .val (.int u107), .val (.int u111), .unset, .unset, .unset, .unset, .unset, .unset, .unset, .unset, .unset, .unset, .unset, .unset] [(.int (4 : Int32)), (.int x3)])) _
    refine XS.iand X0.here hx rfl (hb hby at_28) rfl ?_
    show Steps p.tables e below (s₁.setTop (mkF m 29 #[.val (.int x1), .val (.int x2), .val (.int x3), .val (.int x4), .val (.int x5), .val (.int u107), .val (.int u111), .unset, .unset, .unset, .unset, .unset, .unset, .unset, .unset, .unset, .unset, .unset, .unset] [(.int (x3 &&& (4 : Int32)))])) _
    exact k
  obtain ⟨u115, hu115⟩ : ∃ u : Int32, u = (if (x3 &&& (4 : Int32)) = (0 : Int32) then (0 : Int32) else x5) := ⟨_, rfl⟩
  have A116 : ∀ t, Steps p.tables e below (s₁.setTop (mkF m 38 #[.val (.int x1), .val (.int x2), .val (.int x3), .val (.int x4), .val (.int x5), .val (.int u107), .val (.int u111), .unset, .unset, .unset, .unset, .unset, .unset, .unset, .unset, .unset, .unset, .unset, .unset] [(.int u115)])) t → Steps p.tables e below (s₁.setTop (entryFrame m #[(.int x1), (.int x2), (.int x3), (.int x4), (.int x5)] maxLocals)) t := by
    intro t k
    refine A113 _ ?_
    by_cases hj114 : (x3 &&& (4 : Int32)) = (0 : Int32)
    · refine XS.ifYes X0.here hx rfl (pc0 := 29) (pc' := 37) rfl (hb hby at_29) rfl ((if0 _ _).trans (teq hj114).1) (by decide) (by decide) ?_
      show Steps p.tables e below (s₁.setTop (mkF m 37 #[.val (.int x1), .val (.int x2), .val (.int x3), .val (.int x4), .val (.int x5), .val (.int u107), .val (.int u111), .unset, .unset, .unset, .unset, .unset, .unset, .unset, .unset, .unset, .unset, .unset, .unset] [])) _
      refine XS.iconst X0.here hx rfl (hb hby at_37) ?_
      show Steps p.tables e below (s₁.setTop (mkF m 38 #[.val (.int x1), .val (.int x2), .val (.int x3), .val (.int x4), .val (.int x5), .val (.int u107), .val (.int u111), .unset, .unset, .unset, .unset, .unset, .unset, .unset, .unset, .unset, .unset, .unset, .unset] [(.int (0 : Int32))])) _
      have qu115 : u115 = (0 : Int32) := by rw [hu115]; simp [hj114]
      rw [qu115] at k
      exact k
    · refine XS.ifNo X0.here hx rfl (hb hby at_29) rfl ((if0 _ _).trans (feq hj114).1) ?_
      show Steps p.tables e below (s₁.setTop (mkF m 32 #[.val (.int x1), .val (.int x2), .val (.int x3), .val (.int x4), .val (.int x5), .val (.int u107), .val (.int u111), .unset, .unset, .unset, .unset, .unset, .unset, .unset, .unset, .unset, .unset, .unset, .unset] [])) _
      refine XS.iload X0.here hx rfl (hb hby at_32) rfl ?_
      show Steps p.tables e below (s₁.setTop (mkF m 34 #[.val (.int x1), .val (.int x2), .val (.int x3), .val (.int x4), .val (.int x5), .val (.int u107), .val (.int u111), .unset, .unset, .unset, .unset, .unset, .unset, .unset, .unset, .unset, .unset, .unset, .unset] [(.int x5)])) _
      refine XS.goto X0.here hx rfl (pc0 := 34) (pc' := 38) rfl (hb hby at_34) (by decide) (by decide) ?_
      show Steps p.tables e below (s₁.setTop (mkF m 38 #[.val (.int x1), .val (.int x2), .val (.int x3), .val (.int x4), .val (.int x5), .val (.int u107), .val (.int u111), .unset, .unset, .unset, .unset, .unset, .unset, .unset, .unset, .unset, .unset, .unset, .unset] [(.int x5)])) _
      have qu115 : u115 = x5 := by rw [hu115]; simp [hj114]
      rw [qu115] at k
      exact k
  have A117 : ∀ t, Steps p.tables e below (s₁.setTop (mkF m 44 #[.val (.int x1), .val (.int x2), .val (.int x3), .val (.int x4), .val (.int x5), .val (.int u107), .val (.int u111), .val (.int u115), .unset, .unset, .unset, .unset, .unset, .unset, .unset, .unset, .unset, .unset, .unset] [(.int (x3 &&& (8 : Int32)))])) t → Steps p.tables e below (s₁.setTop (entryFrame m #[(.int x1), (.int x2), (.int x3), (.int x4), (.int x5)] maxLocals)) t := by
    intro t k
    refine A116 _ ?_
    refine XS.istore X0.here hx rfl (hb hby at_38) rfl (l' := #[.val (.int x1), .val (.int x2), .val (.int x3), .val (.int x4), .val (.int x5), .val (.int u107), .val (.int u111), .val (.int u115), .unset, .unset, .unset, .unset, .unset, .unset, .unset, .unset, .unset, .unset, .unset]) rfl ?_
    show Steps p.tables e below (s₁.setTop (mkF m 40 #[.val (.int x1), .val (.int x2), .val (.int x3), .val (.int x4), .val (.int x5), .val (.int u107), .val (.int u111), .val (.int u115), .unset, .unset, .unset, .unset, .unset, .unset, .unset, .unset, .unset, .unset, .unset] [])) _
    refine XS.iloadN X0.here hx rfl (hb hby at_40) rfl ?_
    show Steps p.tables e below (s₁.setTop (mkF m 41 #[.val (.int x1), .val (.int x2), .val (.int x3), .val (.int x4), .val (.int x5), .val (.int u107), .val (.int u111), .val (.int u115), .unset, .unset, .unset, .unset, .unset, .unset, .unset, .unset, .unset, .unset, .unset] [(.int x3)])) _
    refine XS.bipush X0.here hx rfl (hb hby at_41) ?_
    show Steps p.tables e below (s₁.setTop (mkF m 43 #[.val (.int x1), .val (.int x2), .val (.int x3), .val (.int x4), .val (.int x5), .val (.int u107), .val (.int u111), .val (.int u115), .unset, .unset, .unset, .unset, .unset, .unset, .unset, .unset, .unset, .unset, .unset] [(.int (8 : Int32)), (.int x3)])) _
    refine XS.iand X0.here hx rfl (hb hby at_43) rfl ?_
    show Steps p.tables e below (s₁.setTop (mkF m 44 #[.val (.int x1), .val (.int x2), .val (.int x3), .val (.int x4), .val (.int x5), .val (.int u107), .val (.int u111), .val (.int u115), .unset, .unset, .unset, .unset, .unset, .unset, .unset, .unset, .unset, .unset, .unset] [(.int (x3 &&& (8 : Int32)))])) _
    exact k
  obtain ⟨u119, hu119⟩ : ∃ u : Int32, u = (if (x3 &&& (8 : Int32)) = (0 : Int32) then (0 : Int32) else (1 : Int32)) := ⟨_, rfl⟩
  have A120 : ∀ t, Steps p.tables e below (s₁.setTop (mkF m 52 #[.val (.int x1), .val (.int x2), .val (.int x3), .val (.int x4), .val (.int x5), .val (.int u107), .val (.int u111), .val (.int u115), .unset, .unset, .unset, .unset, .unset, .unset, .unset, .unset, .unset, .unset, .unset] [(.int u119)])) t → Steps p.tables e below (s₁.setTop (entryFrame m #[(.int x1), (.int x2), (.int x3), (.int x4), (.int x5)] maxLocals)) t := by
    intro t k
    refine A117 _ ?_
    by_cases hj118 : (x3 &&& (8 : Int32)) = (0 : Int32)
    · refine XS.ifYes X0.here hx rfl (pc0 := 44) (pc' := 51) rfl (hb hby at_44) rfl ((if0 _ _).trans (teq hj118).1) (by decide) (by decide) ?_
      show Steps p.tables e below (s₁.setTop (mkF m 51 #[.val (.int x1), .val (.int x2), .val (.int x3), .val (.int x4), .val (.int x5), .val (.int u107), .val (.int u111), .val (.int u115), .unset, .unset, .unset, .unset, .unset, .unset, .unset, .unset, .unset, .unset, .unset] [])) _
      refine XS.iconst X0.here hx rfl (hb hby at_51) ?_
      show Steps p.tables e below (s₁.setTop (mkF m 52 #[.val (.int x1), .val (.int x2), .val (.int x3), .val (.int x4), .val (.int x5), .val (.int u107), .val (.int u111), .val (.int u115), .unset, .unset, .unset, .unset, .unset, .unset, .unset, .unset, .unset, .unset, .unset] [(.int (0 : Int32))])) _
      have qu119 : u119 = (0 : Int32) := by rw [hu119]; simp [hj118]
      rw [qu119] at k
      exact k
    · refine XS.ifNo X0.here hx rfl (hb hby at_44) rfl ((if0 _ _).trans (feq hj118).1) ?_
      show Steps p.tables e below (s₁.setTop (mkF m 47 #[.val (.int x1), .val (.int x2), .val (.int x3), .val (.int x4), .val (.int x5), .val (.int u107), .val (.int u111), .val (.int u115), .unset, .unset, .unset, .unset, .unset, .unset, .unset, .unset, .unset, .unset, .unset] [])) _
      refine XS.iconst X0.here hx rfl (hb hby at_47) ?_
      show Steps p.tables e below (s₁.setTop (mkF m 48 #[.val (.int x1), .val (.int x2), .val (.int x3), .val (.int x4), .val (.int x5), .val (.int u107), .val (.int u111), .val (.int u115), .unset, .unset, .unset, .unset, .unset, .unset, .unset, .unset, .unset, .unset, .unset] [(.int (1 : Int32))])) _
      refine XS.goto X0.here hx rfl (pc0 := 48) (pc' := 52) rfl (hb hby at_48) (by decide) (by decide) ?_
      show Steps p.tables e below (s₁.setTop (mkF m 52 #[.val (.int x1), .val (.int x2), .val (.int x3), .val (.int x4), .val (.int x5), .val (.int u107), .val (.int u111), .val (.int u115), .unset, .unset, .unset, .unset, .unset, .unset, .unset, .unset, .unset, .unset, .unset] [(.int (1 : Int32))])) _
      have qu119 : u119 = (1 : Int32) := by rw [hu119]; simp [hj118]
      rw [qu119] at k
      exact k
  have hu01 : u107 = 0 ∨ u107 = 1 := by rw [hu107]; split <;> simp
  have hd01 : u119 = 0 ∨ u119 = 1 := by rw [hu119]; split <;> simp
  have A121 : ∀ t, Steps p.tables e below (s₁.setTop (mkF m 54 #[.val (.int x1), .val (.int x2), .val (.int x3), .val (.int x4), .val (.int x5), .val (.int u107), .val (.int u111), .val (.int u115), .val (.int u119), .unset, .unset, .unset, .unset, .unset, .unset, .unset, .unset, .unset, .unset] [])) t → Steps p.tables e below (s₁.setTop (entryFrame m #[(.int x1), (.int x2), (.int x3), (.int x4), (.int x5)] maxLocals)) t := by
    intro t k
    refine A120 _ ?_
    refine XS.istore X0.here hx rfl (hb hby at_52) rfl (l' := #[.val (.int x1), .val (.int x2), .val (.int x3), .val (.int x4), .val (.int x5), .val (.int u107), .val (.int u111), .val (.int u115), .val (.int u119), .unset, .unset, .unset, .unset, .unset, .unset, .unset, .unset, .unset, .unset]) rfl ?_
    show Steps p.tables e below (s₁.setTop (mkF m 54 #[.val (.int x1), .val (.int x2), .val (.int x3), .val (.int x4), .val (.int x5), .val (.int u107), .val (.int u111), .val (.int u115), .val (.int u119), .unset, .unset, .unset, .unset, .unset, .unset, .unset, .unset, .unset, .unset] [])) _
    exact k
  obtain ⟨T122, h122, X122, e122, E122, B122, D122, -, st122⟩ := newO X0 hx hZ hown (hw _ (List.mem_of_getElem? (i := 0) rfl)) (hw _ (List.mem_of_getElem? (i := 1) rfl)) (hw _ (List.mem_of_getElem? (i := 2) rfl)) e0 (g := (mkF m 54 #[.val (.int x1), .val (.int x2), .val (.int x3), .val (.int x4), .val (.int x5), .val (.int u107), .val (.int u111), .val (.int u115), .val (.int u119), .unset, .unset, .unset, .unset, .unset, .unset, .unset, .unset, .unset, .unset] [])) rfl (hb hby at_54) (by decide) (by decide)
  obtain ⟨b122, g122⟩ : ∃ z, z = h0.size := ⟨_, rfl⟩
  rw [← g122] at B122 D122 st122
  have ge123 := Nat.le_trans Z0 (Nat.le_of_eq g122.symm)
  have Zs124 := Nat.le_trans Z0 E122.1
  have Fl125 : Fld Z h122 b122 "com/example/halflight/halflight/Move" "process" "I" (.int (0 : Int32)) := D122 (Or.inr (hw _ (List.mem_of_getElem? (i := 15) rfl))) (ty := .int) (by decide)
  have Fl126 : Fld Z h122 b122 "com/example/halflight/halflight/Move" "way" "I" (.int (0 : Int32)) := D122 (Or.inr (hw _ (List.mem_of_getElem? (i := 17) rfl))) (ty := .int) (by decide)
  have Fl127 : Fld Z h122 b122 "com/example/halflight/halflight/Move" "unknown" "Z" (.int (0 : Int32)) := D122 (Or.inr (hw _ (List.mem_of_getElem? (i := 19) rfl))) (ty := .boolean) (by decide)
  have Ol128 := O0.ext E122
  have A129 : ∀ t, Steps p.tables e below (T122.setTop (mkF m 62 #[.val (.int x1), .val (.int x2), .val (.int x3), .val (.int x4), .val (.int x5), .val (.int u107), .val (.int u111), .val (.int u115), .val (.int u119), .unset, .unset, .unset, .unset, .unset, .unset, .unset, .unset, .unset, .unset] [(.int u107), (.int x2), (.int x1), (.ref b122), (.ref b122)])) t → Steps p.tables e below (s₁.setTop (entryFrame m #[(.int x1), (.int x2), (.int x3), (.int x4), (.int x5)] maxLocals)) t := by
    intro t k
    refine A121 _ ?_
    refine st122 _ ?_
    show Steps p.tables e below (T122.setTop (mkF m 57 #[.val (.int x1), .val (.int x2), .val (.int x3), .val (.int x4), .val (.int x5), .val (.int u107), .val (.int u111), .val (.int u115), .val (.int u119), .unset, .unset, .unset, .unset, .unset, .unset, .unset, .unset, .unset, .unset] [(.ref b122)])) _
    refine XS.dup X122.here hx rfl (hb hby at_57) rfl rfl ?_
    show Steps p.tables e below (T122.setTop (mkF m 58 #[.val (.int x1), .val (.int x2), .val (.int x3), .val (.int x4), .val (.int x5), .val (.int u107), .val (.int u111), .val (.int u115), .val (.int u119), .unset, .unset, .unset, .unset, .unset, .unset, .unset, .unset, .unset, .unset] [(.ref b122), (.ref b122)])) _
    refine XS.iloadN X122.here hx rfl (hb hby at_58) rfl ?_
    show Steps p.tables e below (T122.setTop (mkF m 59 #[.val (.int x1), .val (.int x2), .val (.int x3), .val (.int x4), .val (.int x5), .val (.int u107), .val (.int u111), .val (.int u115), .val (.int u119), .unset, .unset, .unset, .unset, .unset, .unset, .unset, .unset, .unset, .unset] [(.int x1), (.ref b122), (.ref b122)])) _
    refine XS.iloadN X122.here hx rfl (hb hby at_59) rfl ?_
    show Steps p.tables e below (T122.setTop (mkF m 60 #[.val (.int x1), .val (.int x2), .val (.int x3), .val (.int x4), .val (.int x5), .val (.int u107), .val (.int u111), .val (.int u115), .val (.int u119), .unset, .unset, .unset, .unset, .unset, .unset, .unset, .unset, .unset, .unset] [(.int x2), (.int x1), (.ref b122), (.ref b122)])) _
    refine XS.iload X122.here hx rfl (hb hby at_60) rfl ?_
    show Steps p.tables e below (T122.setTop (mkF m 62 #[.val (.int x1), .val (.int x2), .val (.int x3), .val (.int x4), .val (.int x5), .val (.int u107), .val (.int u111), .val (.int u115), .val (.int u119), .unset, .unset, .unset, .unset, .unset, .unset, .unset, .unset, .unset, .unset] [(.int u107), (.int x2), (.int x1), (.ref b122), (.ref b122)])) _
    exact k
  obtain ⟨_, _, ⟨T130, L130, k130, n130⟩, -, X130, ⟨Lc130, hQ130, l130, y130, z130⟩, st130⟩ := X122.specialBack hx (y := (⟨"com/example/halflight/halflight/Move", "<init>", "(IIZ)V"⟩ : MethodName)) rfl hown (mvT hZ (hw _ (List.mem_of_getElem? (i := 3) rfl))) (mvT hZ (hw _ (List.mem_of_getElem? (i := 4) rfl))) (mvT hZ (hw _ (List.mem_of_getElem? (i := 5) rfl))) (by decide) (backOf (W := 1) (own_mov l Z a0 hw [] b122 x1 x2 u107 h122 n0 Zs124 B122 ge123 Fl125 Fl126 Fl127 hu01) hZ (hw _ (List.mem_of_getElem? (i := 5) rfl)) (hw _ (List.mem_of_getElem? (i := 2) rfl)) (by decide) (by decide)) (g := (mkF m 62 #[.val (.int x1), .val (.int x2), .val (.int x3), .val (.int x4), .val (.int x5), .val (.int u107), .val (.int u111), .val (.int u115), .val (.int u119), .unset, .unset, .unset, .unset, .unset, .unset, .unset, .unset, .unset, .unset] [(.int u107), (.int x2), (.int x1), (.ref b122), (.ref b122)])) rfl (by rw [hml]; rfl) (Steps.refl _) (a := b122) (argsL := [(.int x1), (.int x2), (.int u107)]) (rest := [(.ref b122)]) (lenOf own_pd2 rfl) rfl (by show 2 * 0 + _ ≤ _; exact Nat.le_of_eq rfl) (hb hby at_62) (fun _ _ => ⟨rfl, e122, (by decide : 1 + 0 ≤ _), (by decide : 3 + 0 ≤ _)⟩)
  dsimp only [Pt.U, Pt.locs, Pt.cells, Pt.slots] at X130 l130 y130 z130 st130 hQ130
  subst l130 y130 z130
  obtain ⟨rfl, Nq130, K130, Ec130, Fc0_130, Fc1_130, Fc2_130⟩ := hQ130
  have Nf131 := Fr.app N0 Nq130
  have Zs132 := Nat.le_trans Zs124 K130.1
  have Ol133 := Ol128.keep K130 (allS ge123 all0)
  have A134 : ∀ t, Steps p.tables e below (T130.setTop (mkF m 67 #[.val (.int x1), .val (.int x2), .val (.int x3), .val (.int x4), .val (.int x5), .val (.int u107), .val (.int u111), .val (.int u115), .val (.int u119), .val (.ref b122), .unset, .unset, .unset, .unset, .unset, .unset, .unset, .unset, .unset] [])) t → Steps p.tables e below (s₁.setTop (entryFrame m #[(.int x1), (.int x2), (.int x3), (.int x4), (.int x5)] maxLocals)) t := by
    intro t k
    refine A129 _ ?_
    refine st130.trans ?_
    show Steps p.tables e below (T130.setTop (mkF m 65 #[.val (.int x1), .val (.int x2), .val (.int x3), .val (.int x4), .val (.int x5), .val (.int u107), .val (.int u111), .val (.int u115), .val (.int u119), .unset, .unset, .unset, .unset, .unset, .unset, .unset, .unset, .unset, .unset] [(.ref b122)])) _
    refine XS.astore X130.here hx rfl (hb hby at_65) rfl rfl (l' := #[.val (.int x1), .val (.int x2), .val (.int x3), .val (.int x4), .val (.int x5), .val (.int u107), .val (.int u111), .val (.int u115), .val (.int u119), .val (.ref b122), .unset, .unset, .unset, .unset, .unset, .unset, .unset, .unset, .unset]) rfl ?_
    show Steps p.tables e below (T130.setTop (mkF m 67 #[.val (.int x1), .val (.int x2), .val (.int x3), .val (.int x4), .val (.int x5), .val (.int u107), .val (.int u111), .val (.int u115), .val (.int u119), .val (.ref b122), .unset, .unset, .unset, .unset, .unset, .unset, .unset, .unset, .unset] [])) _
    exact k
  obtain ⟨T135, h135, X135, e135, E135, B135, D135, -, st135⟩ := newO X130 hx hZ hown (hw _ (List.mem_of_getElem? (i := 0) rfl)) (hw _ (List.mem_of_getElem? (i := 1) rfl)) (hw _ (List.mem_of_getElem? (i := 2) rfl)) rfl (g := (mkF m 67 #[.val (.int x1), .val (.int x2), .val (.int x3), .val (.int x4), .val (.int x5), .val (.int u107), .val (.int u111), .val (.int u115), .val (.int u119), .val (.ref b122), .unset, .unset, .unset, .unset, .unset, .unset, .unset, .unset, .unset] [])) rfl (hb hby at_67) (by decide) (by decide)
  obtain ⟨b135, g135⟩ : ∃ z, z = T130.heap.size := ⟨_, rfl⟩
  rw [← g135] at B135 D135 st135
  have ne136 := Nat.ne_of_lt (Nat.lt_of_lt_of_le Ec130.lt (Nat.le_of_eq g135.symm))
  have ge137 := Nat.le_trans Zs132 (Nat.le_of_eq g135.symm)
  have Ex138 := Ec130.ext E135
  have Fl139 := Fc0_130.ext E135
  have Fl140 := Fc1_130.ext E135
  have Fl141 := Fc2_130.ext E135
  have Zs142 := Nat.le_trans Zs132 E135.1
  have Fl143 : Fld Z h135 b135 "com/example/halflight/halflight/Move" "process" "I" (.int (0 : Int32)) := D135 (Or.inr (hw _ (List.mem_of_getElem? (i := 15) rfl))) (ty := .int) (by decide)
  have Fl144 : Fld Z h135 b135 "com/example/halflight/halflight/Move" "way" "I" (.int (0 : Int32)) := D135 (Or.inr (hw _ (List.mem_of_getElem? (i := 17) rfl))) (ty := .int) (by decide)
  have Fl145 : Fld Z h135 b135 "com/example/halflight/halflight/Move" "unknown" "Z" (.int (0 : Int32)) := D135 (Or.inr (hw _ (List.mem_of_getElem? (i := 19) rfl))) (ty := .boolean) (by decide)
  have Ol146 := Ol133.ext E135
  have A147 : ∀ t, Steps p.tables e below (T135.setTop (mkF m 83 #[.val (.int x1), .val (.int x2), .val (.int x3), .val (.int x4), .val (.int x5), .val (.int u107), .val (.int u111), .val (.int u115), .val (.int u119), .val (.ref b122), .unset, .unset, .unset, .unset, .unset, .unset, .unset, .unset, .unset] [(.int u119), (.int u107), (.int (x2 ^^^ u115)), (.int (x1 ^^^ u111)), (.ref b135), (.ref b135)])) t → Steps p.tables e below (s₁.setTop (entryFrame m #[(.int x1), (.int x2), (.int x3), (.int x4), (.int x5)] maxLocals)) t := by
    intro t k
    refine A134 _ ?_
    refine st135 _ ?_
    show Steps p.tables e below (T135.setTop (mkF m 70 #[.val (.int x1), .val (.int x2), .val (.int x3), .val (.int x4), .val (.int x5), .val (.int u107), .val (.int u111), .val (.int u115), .val (.int u119), .val (.ref b122), .unset, .unset, .unset, .unset, .unset, .unset, .unset, .unset, .unset] [(.ref b135)])) _
    refine XS.dup X135.here hx rfl (hb hby at_70) rfl rfl ?_
    show Steps p.tables e below (T135.setTop (mkF m 71 #[.val (.int x1), .val (.int x2), .val (.int x3), .val (.int x4), .val (.int x5), .val (.int u107), .val (.int u111), .val (.int u115), .val (.int u119), .val (.ref b122), .unset, .unset, .unset, .unset, .unset, .unset, .unset, .unset, .unset] [(.ref b135), (.ref b135)])) _
    refine XS.iloadN X135.here hx rfl (hb hby at_71) rfl ?_
    show Steps p.tables e below (T135.setTop (mkF m 72 #[.val (.int x1), .val (.int x2), .val (.int x3), .val (.int x4), .val (.int x5), .val (.int u107), .val (.int u111), .val (.int u115), .val (.int u119), .val (.ref b122), .unset, .unset, .unset, .unset, .unset, .unset, .unset, .unset, .unset] [(.int x1), (.ref b135), (.ref b135)])) _
    refine XS.iload X135.here hx rfl (hb hby at_72) rfl ?_
    show Steps p.tables e below (T135.setTop (mkF m 74 #[.val (.int x1), .val (.int x2), .val (.int x3), .val (.int x4), .val (.int x5), .val (.int u107), .val (.int u111), .val (.int u115), .val (.int u119), .val (.ref b122), .unset, .unset, .unset, .unset, .unset, .unset, .unset, .unset, .unset] [(.int u111), (.int x1), (.ref b135), (.ref b135)])) _
    refine XS.ixor X135.here hx rfl (hb hby at_74) rfl ?_
    show Steps p.tables e below (T135.setTop (mkF m 75 #[.val (.int x1), .val (.int x2), .val (.int x3), .val (.int x4), .val (.int x5), .val (.int u107), .val (.int u111), .val (.int u115), .val (.int u119), .val (.ref b122), .unset, .unset, .unset, .unset, .unset, .unset, .unset, .unset, .unset] [(.int (x1 ^^^ u111)), (.ref b135), (.ref b135)])) _
    refine XS.iloadN X135.here hx rfl (hb hby at_75) rfl ?_
    show Steps p.tables e below (T135.setTop (mkF m 76 #[.val (.int x1), .val (.int x2), .val (.int x3), .val (.int x4), .val (.int x5), .val (.int u107), .val (.int u111), .val (.int u115), .val (.int u119), .val (.ref b122), .unset, .unset, .unset, .unset, .unset, .unset, .unset, .unset, .unset] [(.int x2), (.int (x1 ^^^ u111)), (.ref b135), (.ref b135)])) _
    refine XS.iload X135.here hx rfl (hb hby at_76) rfl ?_
    show Steps p.tables e below (T135.setTop (mkF m 78 #[.val (.int x1), .val (.int x2), .val (.int x3), .val (.int x4), .val (.int x5), .val (.int u107), .val (.int u111), .val (.int u115), .val (.int u119), .val (.ref b122), .unset, .unset, .unset, .unset, .unset, .unset, .unset, .unset, .unset] [(.int u115), (.int x2), (.int (x1 ^^^ u111)), (.ref b135), (.ref b135)])) _
    refine XS.ixor X135.here hx rfl (hb hby at_78) rfl ?_
    show Steps p.tables e below (T135.setTop (mkF m 79 #[.val (.int x1), .val (.int x2), .val (.int x3), .val (.int x4), .val (.int x5), .val (.int u107), .val (.int u111), .val (.int u115), .val (.int u119), .val (.ref b122), .unset, .unset, .unset, .unset, .unset, .unset, .unset, .unset, .unset] [(.int (x2 ^^^ u115)), (.int (x1 ^^^ u111)), (.ref b135), (.ref b135)])) _
    refine XS.iload X135.here hx rfl (hb hby at_79) rfl ?_
    show Steps p.tables e below (T135.setTop (mkF m 81 #[.val (.int x1), .val (.int x2), .val (.int x3), .val (.int x4), .val (.int x5), .val (.int u107), .val (.int u111), .val (.int u115), .val (.int u119), .val (.ref b122), .unset, .unset, .unset, .unset, .unset, .unset, .unset, .unset, .unset] [(.int u107), (.int (x2 ^^^ u115)), (.int (x1 ^^^ u111)), (.ref b135), (.ref b135)])) _
    refine XS.iload X135.here hx rfl (hb hby at_81) rfl ?_
    show Steps p.tables e below (T135.setTop (mkF m 83 #[.val (.int x1), .val (.int x2), .val (.int x3), .val (.int x4), .val (.int x5), .val (.int u107), .val (.int u111), .val (.int u115), .val (.int u119), .val (.ref b122), .unset, .unset, .unset, .unset, .unset, .unset, .unset, .unset, .unset] [(.int u119), (.int u107), (.int (x2 ^^^ u115)), (.int (x1 ^^^ u111)), (.ref b135), (.ref b135)])) _
    exact k
  obtain ⟨u149, hu149⟩ : ∃ u : Int32, u = (if u107 = u119 then (0 : Int32) else (1 : Int32)) := ⟨_, rfl⟩
  have A150 : ∀ t, Steps p.tables e below (T135.setTop (mkF m 91 #[.val (.int x1), .val (.int x2), .val (.int x3), .val (.int x4), .val (.int x5), .val (.int u107), .val (.int u111), .val (.int u115), .val (.int u119), .val (.ref b122), .unset, .unset, .unset, .unset, .unset, .unset, .unset, .unset, .unset] [(.int u149), (.int (x2 ^^^ u115)), (.int (x1 ^^^ u111)), (.ref b135), (.ref b135)])) t → Steps p.tables e below (s₁.setTop (entryFrame m #[(.int x1), (.int x2), (.int x3), (.int x4), (.int x5)] maxLocals)) t := by
    intro t k
    refine A147 _ ?_
    by_cases hj148 : u107 = u119
    · refine XS.icmpYes X135.here hx rfl (pc0 := 83) (pc' := 90) rfl (hb hby at_83) rfl (teq hj148).1 (by decide) (by decide) ?_
      show Steps p.tables e below (T135.setTop (mkF m 90 #[.val (.int x1), .val (.int x2), .val (.int x3), .val (.int x4), .val (.int x5), .val (.int u107), .val (.int u111), .val (.int u115), .val (.int u119), .val (.ref b122), .unset, .unset, .unset, .unset, .unset, .unset, .unset, .unset, .unset] [(.int (x2 ^^^ u115)), (.int (x1 ^^^ u111)), (.ref b135), (.ref b135)])) _
      refine XS.iconst X135.here hx rfl (hb hby at_90) ?_
      show Steps p.tables e below (T135.setTop (mkF m 91 #[.val (.int x1), .val (.int x2), .val (.int x3), .val (.int x4), .val (.int x5), .val (.int u107), .val (.int u111), .val (.int u115), .val (.int u119), .val (.ref b122), .unset, .unset, .unset, .unset, .unset, .unset, .unset, .unset, .unset] [(.int (0 : Int32)), (.int (x2 ^^^ u115)), (.int (x1 ^^^ u111)), (.ref b135), (.ref b135)])) _
      have qu149 : u149 = (0 : Int32) := by rw [hu149]; simp [hj148]
      rw [qu149] at k
      exact k
    · refine XS.icmpNo X135.here hx rfl (hb hby at_83) rfl (feq hj148).1 ?_
      show Steps p.tables e below (T135.setTop (mkF m 86 #[.val (.int x1), .val (.int x2), .val (.int x3), .val (.int x4), .val (.int x5), .val (.int u107), .val (.int u111), .val (.int u115), .val (.int u119), .val (.ref b122), .unset, .unset, .unset, .unset, .unset, .unset, .unset, .unset, .unset] [(.int (x2 ^^^ u115)), (.int (x1 ^^^ u111)), (.ref b135), (.ref b135)])) _
      refine XS.iconst X135.here hx rfl (hb hby at_86) ?_
      show Steps p.tables e below (T135.setTop (mkF m 87 #[.val (.int x1), .val (.int x2), .val (.int x3), .val (.int x4), .val (.int x5), .val (.int u107), .val (.int u111), .val (.int u115), .val (.int u119), .val (.ref b122), .unset, .unset, .unset, .unset, .unset, .unset, .unset, .unset, .unset] [(.int (1 : Int32)), (.int (x2 ^^^ u115)), (.int (x1 ^^^ u111)), (.ref b135), (.ref b135)])) _
      refine XS.goto X135.here hx rfl (pc0 := 87) (pc' := 91) rfl (hb hby at_87) (by decide) (by decide) ?_
      show Steps p.tables e below (T135.setTop (mkF m 91 #[.val (.int x1), .val (.int x2), .val (.int x3), .val (.int x4), .val (.int x5), .val (.int u107), .val (.int u111), .val (.int u115), .val (.int u119), .val (.ref b122), .unset, .unset, .unset, .unset, .unset, .unset, .unset, .unset, .unset] [(.int (1 : Int32)), (.int (x2 ^^^ u115)), (.int (x1 ^^^ u111)), (.ref b135), (.ref b135)])) _
      have qu149 : u149 = (1 : Int32) := by rw [hu149]; simp [hj148]
      rw [qu149] at k
      exact k
  have hf01 : u149 = 0 ∨ u149 = 1 := by rw [hu149]; split <;> simp
  obtain ⟨_, _, ⟨T151, L151, k151, n151⟩, -, X151, ⟨Lc151, hQ151, l151, y151, z151⟩, st151⟩ := X135.specialBack hx (y := (⟨"com/example/halflight/halflight/Move", "<init>", "(IIZ)V"⟩ : MethodName)) rfl hown (mvT hZ (hw _ (List.mem_of_getElem? (i := 3) rfl))) (mvT hZ (hw _ (List.mem_of_getElem? (i := 4) rfl))) (mvT hZ (hw _ (List.mem_of_getElem? (i := 5) rfl))) (by decide) (backOf (W := 1) (own_mov l Z a0 hw [] b135 (x1 ^^^ u111) (x2 ^^^ u115) u149 h135 n0 Zs142 B135 ge137 Fl143 Fl144 Fl145 hf01) hZ (hw _ (List.mem_of_getElem? (i := 5) rfl)) (hw _ (List.mem_of_getElem? (i := 2) rfl)) (by decide) (by decide)) (g := (mkF m 91 #[.val (.int x1), .val (.int x2), .val (.int x3), .val (.int x4), .val (.int x5), .val (.int u107), .val (.int u111), .val (.int u115), .val (.int u119), .val (.ref b122), .unset, .unset, .unset, .unset, .unset, .unset, .unset, .unset, .unset] [(.int u149), (.int (x2 ^^^ u115)), (.int (x1 ^^^ u111)), (.ref b135), (.ref b135)])) rfl (by rw [hml]; rfl) (Steps.refl _) (a := b135) (argsL := [(.int (x1 ^^^ u111)), (.int (x2 ^^^ u115)), (.int u149)]) (rest := [(.ref b135)]) (lenOf own_pd2 rfl) rfl (by show 2 * 0 + _ ≤ _; exact Nat.le_of_eq rfl) (hb hby at_91) (fun _ _ => ⟨rfl, e135, (by decide : 2 + 0 ≤ _), (by decide : 6 + 0 ≤ _)⟩)
  dsimp only [Pt.U, Pt.locs, Pt.cells, Pt.slots] at X151 l151 y151 z151 st151 hQ151
  subst l151 y151 z151
  obtain ⟨rfl, Nq151, K151, Ec151, Fc0_151, Fc1_151, Fc2_151⟩ := hQ151
  have Nf152 := Fr.app Nf131 Nq151
  have Ex153 := Ex138.keep K151
  have Fl154 := Fl139.keep K151 (ninS ne136 nin0)
  have Fl155 := Fl140.keep K151 (ninS ne136 nin0)
  have Fl156 := Fl141.keep K151 (ninS ne136 nin0)
  have Zs157 := Nat.le_trans Zs142 K151.1
  have Ol158 := Ol146.keep K151 (allS ge137 all0)
  have A159 : ∀ t, Steps p.tables e below (T151.setTop (mkF m 98 #[.val (.int x1), .val (.int x2), .val (.int x3), .val (.int x4), .val (.int x5), .val (.int u107), .val (.int u111), .val (.int u115), .val (.int u119), .val (.ref b122), .val (.ref b135), .unset, .unset, .unset, .unset, .unset, .unset, .unset, .unset] [(.int u111)])) t → Steps p.tables e below (s₁.setTop (entryFrame m #[(.int x1), (.int x2), (.int x3), (.int x4), (.int x5)] maxLocals)) t := by
    intro t k
    refine A150 _ ?_
    refine st151.trans ?_
    show Steps p.tables e below (T151.setTop (mkF m 94 #[.val (.int x1), .val (.int x2), .val (.int x3), .val (.int x4), .val (.int x5), .val (.int u107), .val (.int u111), .val (.int u115), .val (.int u119), .val (.ref b122), .unset, .unset, .unset, .unset, .unset, .unset, .unset, .unset, .unset] [(.ref b135)])) _
    refine XS.astore X151.here hx rfl (hb hby at_94) rfl rfl (l' := #[.val (.int x1), .val (.int x2), .val (.int x3), .val (.int x4), .val (.int x5), .val (.int u107), .val (.int u111), .val (.int u115), .val (.int u119), .val (.ref b122), .val (.ref b135), .unset, .unset, .unset, .unset, .unset, .unset, .unset, .unset]) rfl ?_
    show Steps p.tables e below (T151.setTop (mkF m 96 #[.val (.int x1), .val (.int x2), .val (.int x3), .val (.int x4), .val (.int x5), .val (.int u107), .val (.int u111), .val (.int u115), .val (.int u119), .val (.ref b122), .val (.ref b135), .unset, .unset, .unset, .unset, .unset, .unset, .unset, .unset] [])) _
    refine XS.iload X151.here hx rfl (hb hby at_96) rfl ?_
    show Steps p.tables e below (T151.setTop (mkF m 98 #[.val (.int x1), .val (.int x2), .val (.int x3), .val (.int x4), .val (.int x5), .val (.int u107), .val (.int u111), .val (.int u115), .val (.int u119), .val (.ref b122), .val (.ref b135), .unset, .unset, .unset, .unset, .unset, .unset, .unset, .unset] [(.int u111)])) _
    exact k
  obtain ⟨u163, hu163⟩ : ∃ u : Int32, u = (if u111 = (0 : Int32) then (if u115 = (0 : Int32) then (if u119 = (0 : Int32) then (1 : Int32) else (0 : Int32)) else (0 : Int32)) else (0 : Int32)) := ⟨_, rfl⟩
  have A164 : ∀ t, Steps p.tables e below (T151.setTop (mkF m 116 #[.val (.int x1), .val (.int x2), .val (.int x3), .val (.int x4), .val (.int x5), .val (.int u107), .val (.int u111), .val (.int u115), .val (.int u119), .val (.ref b122), .val (.ref b135), .unset, .unset, .unset, .unset, .unset, .unset, .unset, .unset] [(.int u163)])) t → Steps p.tables e below (s₁.setTop (entryFrame m #[(.int x1), (.int x2), (.int x3), (.int x4), (.int x5)] maxLocals)) t := by
    intro t k
    refine A159 _ ?_
    by_cases hj160 : u111 = (0 : Int32)
    · refine XS.ifNo X151.here hx rfl (hb hby at_98) rfl ((if0 _ _).trans (teq hj160).2) ?_
      show Steps p.tables e below (T151.setTop (mkF m 101 #[.val (.int x1), .val (.int x2), .val (.int x3), .val (.int x4), .val (.int x5), .val (.int u107), .val (.int u111), .val (.int u115), .val (.int u119), .val (.ref b122), .val (.ref b135), .unset, .unset, .unset, .unset, .unset, .unset, .unset, .unset] [])) _
      refine XS.iload X151.here hx rfl (hb hby at_101) rfl ?_
      show Steps p.tables e below (T151.setTop (mkF m 103 #[.val (.int x1), .val (.int x2), .val (.int x3), .val (.int x4), .val (.int x5), .val (.int u107), .val (.int u111), .val (.int u115), .val (.int u119), .val (.ref b122), .val (.ref b135), .unset, .unset, .unset, .unset, .unset, .unset, .unset, .unset] [(.int u115)])) _
      by_cases hj161 : u115 = (0 : Int32)
      · refine XS.ifNo X151.here hx rfl (hb hby at_103) rfl ((if0 _ _).trans (teq hj161).2) ?_
        show Steps p.tables e below (T151.setTop (mkF m 106 #[.val (.int x1), .val (.int x2), .val (.int x3), .val (.int x4), .val (.int x5), .val (.int u107), .val (.int u111), .val (.int u115), .val (.int u119), .val (.ref b122), .val (.ref b135), .unset, .unset, .unset, .unset, .unset, .unset, .unset, .unset] [])) _
        refine XS.iload X151.here hx rfl (hb hby at_106) rfl ?_
        show Steps p.tables e below (T151.setTop (mkF m 108 #[.val (.int x1), .val (.int x2), .val (.int x3), .val (.int x4), .val (.int x5), .val (.int u107), .val (.int u111), .val (.int u115), .val (.int u119), .val (.ref b122), .val (.ref b135), .unset, .unset, .unset, .unset, .unset, .unset, .unset, .unset] [(.int u119)])) _
        by_cases hj162 : u119 = (0 : Int32)
        · refine XS.ifNo X151.here hx rfl (hb hby at_108) rfl ((if0 _ _).trans (teq hj162).2) ?_
          show Steps p.tables e below (T151.setTop (mkF m 111 #[.val (.int x1), .val (.int x2), .val (.int x3), .val (.int x4), .val (.int x5), .val (.int u107), .val (.int u111), .val (.int u115), .val (.int u119), .val (.ref b122), .val (.ref b135), .unset, .unset, .unset, .unset, .unset, .unset, .unset, .unset] [])) _
          refine XS.iconst X151.here hx rfl (hb hby at_111) ?_
          show Steps p.tables e below (T151.setTop (mkF m 112 #[.val (.int x1), .val (.int x2), .val (.int x3), .val (.int x4), .val (.int x5), .val (.int u107), .val (.int u111), .val (.int u115), .val (.int u119), .val (.ref b122), .val (.ref b135), .unset, .unset, .unset, .unset, .unset, .unset, .unset, .unset] [(.int (1 : Int32))])) _
          refine XS.goto X151.here hx rfl (pc0 := 112) (pc' := 116) rfl (hb hby at_112) (by decide) (by decide) ?_
          show Steps p.tables e below (T151.setTop (mkF m 116 #[.val (.int x1), .val (.int x2), .val (.int x3), .val (.int x4), .val (.int x5), .val (.int u107), .val (.int u111), .val (.int u115), .val (.int u119), .val (.ref b122), .val (.ref b135), .unset, .unset, .unset, .unset, .unset, .unset, .unset, .unset] [(.int (1 : Int32))])) _
          have qu163 : u163 = (1 : Int32) := by rw [hu163]; simp [hj160, hj161, hj162]
          rw [qu163] at k
          exact k
        · refine XS.ifYes X151.here hx rfl (pc0 := 108) (pc' := 115) rfl (hb hby at_108) rfl ((if0 _ _).trans (feq hj162).2) (by decide) (by decide) ?_
          show Steps p.tables e below (T151.setTop (mkF m 115 #[.val (.int x1), .val (.int x2), .val (.int x3), .val (.int x4), .val (.int x5), .val (.int u107), .val (.int u111), .val (.int u115), .val (.int u119), .val (.ref b122), .val (.ref b135), .unset, .unset, .unset, .unset, .unset, .unset, .unset, .unset] [])) _
          refine XS.iconst X151.here hx rfl (hb hby at_115) ?_
          show Steps p.tables e below (T151.setTop (mkF m 116 #[.val (.int x1), .val (.int x2), .val (.int x3), .val (.int x4), .val (.int x5), .val (.int u107), .val (.int u111), .val (.int u115), .val (.int u119), .val (.ref b122), .val (.ref b135), .unset, .unset, .unset, .unset, .unset, .unset, .unset, .unset] [(.int (0 : Int32))])) _
          have qu163 : u163 = (0 : Int32) := by rw [hu163]; simp [hj160, hj161, hj162]
          rw [qu163] at k
          exact k
      · refine XS.ifYes X151.here hx rfl (pc0 := 103) (pc' := 115) rfl (hb hby at_103) rfl ((if0 _ _).trans (feq hj161).2) (by decide) (by decide) ?_
        show Steps p.tables e below (T151.setTop (mkF m 115 #[.val (.int x1), .val (.int x2), .val (.int x3), .val (.int x4), .val (.int x5), .val (.int u107), .val (.int u111), .val (.int u115), .val (.int u119), .val (.ref b122), .val (.ref b135), .unset, .unset, .unset, .unset, .unset, .unset, .unset, .unset] [])) _
        refine XS.iconst X151.here hx rfl (hb hby at_115) ?_
        show Steps p.tables e below (T151.setTop (mkF m 116 #[.val (.int x1), .val (.int x2), .val (.int x3), .val (.int x4), .val (.int x5), .val (.int u107), .val (.int u111), .val (.int u115), .val (.int u119), .val (.ref b122), .val (.ref b135), .unset, .unset, .unset, .unset, .unset, .unset, .unset, .unset] [(.int (0 : Int32))])) _
        have qu163 : u163 = (0 : Int32) := by rw [hu163]; simp [hj160, hj161]
        rw [qu163] at k
        exact k
    · refine XS.ifYes X151.here hx rfl (pc0 := 98) (pc' := 115) rfl (hb hby at_98) rfl ((if0 _ _).trans (feq hj160).2) (by decide) (by decide) ?_
      show Steps p.tables e below (T151.setTop (mkF m 115 #[.val (.int x1), .val (.int x2), .val (.int x3), .val (.int x4), .val (.int x5), .val (.int u107), .val (.int u111), .val (.int u115), .val (.int u119), .val (.ref b122), .val (.ref b135), .unset, .unset, .unset, .unset, .unset, .unset, .unset, .unset] [])) _
      refine XS.iconst X151.here hx rfl (hb hby at_115) ?_
      show Steps p.tables e below (T151.setTop (mkF m 116 #[.val (.int x1), .val (.int x2), .val (.int x3), .val (.int x4), .val (.int x5), .val (.int u107), .val (.int u111), .val (.int u115), .val (.int u119), .val (.ref b122), .val (.ref b135), .unset, .unset, .unset, .unset, .unset, .unset, .unset, .unset] [(.int (0 : Int32))])) _
      have qu163 : u163 = (0 : Int32) := by rw [hu163]; simp [hj160]
      rw [qu163] at k
      exact k
  have A165 : ∀ t, Steps p.tables e below (T151.setTop (mkF m 122 #[.val (.int x1), .val (.int x2), .val (.int x3), .val (.int x4), .val (.int x5), .val (.int u107), .val (.int u111), .val (.int u115), .val (.int u119), .val (.ref b122), .val (.ref b135), .val (.int u163), .val .null, .unset, .unset, .unset, .unset, .unset, .unset] [(.int x1)])) t → Steps p.tables e below (s₁.setTop (entryFrame m #[(.int x1), (.int x2), (.int x3), (.int x4), (.int x5)] maxLocals)) t := by
    intro t k
    refine A164 _ ?_
    refine XS.istore X151.here hx rfl (hb hby at_116) rfl (l' := #[.val (.int x1), .val (.int x2), .val (.int x3), .val (.int x4), .val (.int x5), .val (.int u107), .val (.int u111), .val (.int u115), .val (.int u119), .val (.ref b122), .val (.ref b135), .val (.int u163), .unset, .unset, .unset, .unset, .unset, .unset, .unset]) rfl ?_
    show Steps p.tables e below (T151.setTop (mkF m 118 #[.val (.int x1), .val (.int x2), .val (.int x3), .val (.int x4), .val (.int x5), .val (.int u107), .val (.int u111), .val (.int u115), .val (.int u119), .val (.ref b122), .val (.ref b135), .val (.int u163), .unset, .unset, .unset, .unset, .unset, .unset, .unset] [])) _
    refine XS.aconstNull X151.here hx rfl (hb hby at_118) ?_
    show Steps p.tables e below (T151.setTop (mkF m 119 #[.val (.int x1), .val (.int x2), .val (.int x3), .val (.int x4), .val (.int x5), .val (.int u107), .val (.int u111), .val (.int u115), .val (.int u119), .val (.ref b122), .val (.ref b135), .val (.int u163), .unset, .unset, .unset, .unset, .unset, .unset, .unset] [.null])) _
    refine XS.astore X151.here hx rfl (hb hby at_119) rfl rfl (l' := #[.val (.int x1), .val (.int x2), .val (.int x3), .val (.int x4), .val (.int x5), .val (.int u107), .val (.int u111), .val (.int u115), .val (.int u119), .val (.ref b122), .val (.ref b135), .val (.int u163), .val .null, .unset, .unset, .unset, .unset, .unset, .unset]) rfl ?_
    show Steps p.tables e below (T151.setTop (mkF m 121 #[.val (.int x1), .val (.int x2), .val (.int x3), .val (.int x4), .val (.int x5), .val (.int u107), .val (.int u111), .val (.int u115), .val (.int u119), .val (.ref b122), .val (.ref b135), .val (.int u163), .val .null, .unset, .unset, .unset, .unset, .unset, .unset] [])) _
    refine XS.iloadN X151.here hx rfl (hb hby at_121) rfl ?_
    show Steps p.tables e below (T151.setTop (mkF m 122 #[.val (.int x1), .val (.int x2), .val (.int x3), .val (.int x4), .val (.int x5), .val (.int u107), .val (.int u111), .val (.int u115), .val (.int u119), .val (.ref b122), .val (.ref b135), .val (.int u163), .val .null, .unset, .unset, .unset, .unset, .unset, .unset] [(.int x1)])) _
    exact k
  obtain ⟨_, _, ⟨T166, L166, k166, n166⟩, -, X166, ⟨Lc166, hQ166, l166, y166, z166⟩, st166⟩ := Jvm.LawKit.callS X151 hx (y := (⟨"java/lang/Integer", "valueOf", "(I)Ljava/lang/Integer;"⟩ : MethodName)) hown (mvT hZ (hw _ (List.mem_of_getElem? (i := 20) rfl))) (mvT hZ (hw _ (List.mem_of_getElem? (i := 21) rfl))) (mvT hZ (hw _ (List.mem_of_getElem? (i := 22) rfl))) (mvT hZ (hw _ (List.mem_of_getElem? (i := 23) rfl))) (by decide) (backOf (W := 0) (own_vo l Z a0 hw [] x1 vc cc T151.heap n0 Zs157 SH SC AC sz hel Ol158) hZ (hw _ (List.mem_of_getElem? (i := 23) rfl)) (hw _ (List.mem_of_getElem? (i := 22) rfl)) (by decide) (by decide)) (g := (mkF m 122 #[.val (.int x1), .val (.int x2), .val (.int x3), .val (.int x4), .val (.int x5), .val (.int u107), .val (.int u111), .val (.int u115), .val (.int u119), .val (.ref b122), .val (.ref b135), .val (.int u163), .val .null, .unset, .unset, .unset, .unset, .unset, .unset] [(.int x1)])) rfl (by rw [hml]; rfl) (argsL := [(.int x1)]) (rest := []) (lenOf own_pd3 rfl) rfl (by show 2 * 0 + _ ≤ _; exact Nat.le_of_eq rfl) (hb hby at_122) (fun _ _ => ⟨rfl, rfl, (by decide : 2 + 1 ≤ _), (by decide : 6 + 1 ≤ _)⟩)
  dsimp only [Pt.U, Pt.locs, Pt.cells, Pt.slots] at X166 l166 y166 z166 st166 hQ166
  subst l166 y166 z166
  obtain ⟨r166, rfl, Nq166, Xe166, Er166⟩ := hQ166
  have Nf167 := Fr.app Nf152 Nq166
  have Ex168 := Ex153.ext Xe166
  have Ex169 := Ec151.ext Xe166
  have Fl170 := Fl154.ext Xe166
  have Fl171 := Fl155.ext Xe166
  have Fl172 := Fl156.ext Xe166
  have Fl173 := Fc0_151.ext Xe166
  have Fl174 := Fc1_151.ext Xe166
  have Fl175 := Fc2_151.ext Xe166
  have Zs176 := Nat.le_trans Zs157 Xe166.1
  have Ol177 := Ol158.ext Xe166
  have A178 : ∀ t, Steps p.tables e below (T166.setTop (mkF m 131 #[.val (.int x1), .val (.int x2), .val (.int x3), .val (.int x4), .val (.int x5), .val (.int u107), .val (.int u111), .val (.int u115), .val (.int u119), .val (.ref b122), .val (.ref b135), .val (.int u163), .val .null, .val (.ref r166), .unset, .unset, .unset, .unset, .unset] [(.ref b135), (.ref b122)])) t → Steps p.tables e below (s₁.setTop (entryFrame m #[(.int x1), (.int x2), (.int x3), (.int x4), (.int x5)] maxLocals)) t := by
    intro t k
    refine A165 _ ?_
    refine st166 _ ?_
    show Steps p.tables e below (T166.setTop (mkF m 125 #[.val (.int x1), .val (.int x2), .val (.int x3), .val (.int x4), .val (.int x5), .val (.int u107), .val (.int u111), .val (.int u115), .val (.int u119), .val (.ref b122), .val (.ref b135), .val (.int u163), .val .null, .unset, .unset, .unset, .unset, .unset, .unset] [(.ref r166)])) _
    refine XS.astore X166.here hx rfl (hb hby at_125) rfl rfl (l' := #[.val (.int x1), .val (.int x2), .val (.int x3), .val (.int x4), .val (.int x5), .val (.int u107), .val (.int u111), .val (.int u115), .val (.int u119), .val (.ref b122), .val (.ref b135), .val (.int u163), .val .null, .val (.ref r166), .unset, .unset, .unset, .unset, .unset]) rfl ?_
    show Steps p.tables e below (T166.setTop (mkF m 127 #[.val (.int x1), .val (.int x2), .val (.int x3), .val (.int x4), .val (.int x5), .val (.int u107), .val (.int u111), .val (.int u115), .val (.int u119), .val (.ref b122), .val (.ref b135), .val (.int u163), .val .null, .val (.ref r166), .unset, .unset, .unset, .unset, .unset] [])) _
    refine XS.aload X166.here hx rfl (hb hby at_127) rfl rfl ?_
    show Steps p.tables e below (T166.setTop (mkF m 129 #[.val (.int x1), .val (.int x2), .val (.int x3), .val (.int x4), .val (.int x5), .val (.int u107), .val (.int u111), .val (.int u115), .val (.int u119), .val (.ref b122), .val (.ref b135), .val (.int u163), .val .null, .val (.ref r166), .unset, .unset, .unset, .unset, .unset] [(.ref b122)])) _
    refine XS.aload X166.here hx rfl (hb hby at_129) rfl rfl ?_
    show Steps p.tables e below (T166.setTop (mkF m 131 #[.val (.int x1), .val (.int x2), .val (.int x3), .val (.int x4), .val (.int x5), .val (.int u107), .val (.int u111), .val (.int u115), .val (.int u119), .val (.ref b122), .val (.ref b135), .val (.int u163), .val .null, .val (.ref r166), .unset, .unset, .unset, .unset, .unset] [(.ref b135), (.ref b122)])) _
    exact k
  obtain ⟨cq179, kq179, q179a, q179b, q179c⟩ := isOf hZ rfl Ex168
  obtain ⟨_, _, ⟨T179, L179, k179, n179⟩, -, X179, ⟨Lc179, hQ179, l179, y179, z179⟩, st179⟩ := X166.virtualBack hx (y := (⟨"com/example/halflight/halflight/Move", "equals", "(Ljava/lang/Object;)Z"⟩ : MethodName)) (z := (⟨"com/example/halflight/halflight/Move", "equals", "(Ljava/lang/Object;)Z"⟩ : MethodName)) hown (mvT hZ (hw _ (List.mem_of_getElem? (i := 27) rfl))) (mvT hZ (hw _ (List.mem_of_getElem? (i := 28) rfl))) (notFace_of_selects (args := #[]) (mvT hZ (hw _ (List.mem_of_getElem? (i := 30) rfl)))) (mvT hZ (hw _ (List.mem_of_getElem? (i := 30) rfl))) (mvT hZ (hw _ (List.mem_of_getElem? (i := 29) rfl))) (by decide) (backOf (W := 0) (own_eqS l Z a0 hw [] b122 b135 x1 x2 u107 (x1 ^^^ u111) (x2 ^^^ u115) u149 T166.heap n0 Zs176 Ex169 Fl170 Fl173 Fl171 Fl174 Fl172 Fl175) hZ (hw _ (List.mem_of_getElem? (i := 31) rfl)) (hw _ (List.mem_of_getElem? (i := 2) rfl)) (by decide) (by decide)) q179a q179c (g := (mkF m 131 #[.val (.int x1), .val (.int x2), .val (.int x3), .val (.int x4), .val (.int x5), .val (.int u107), .val (.int u111), .val (.int u115), .val (.int u119), .val (.ref b122), .val (.ref b135), .val (.int u163), .val .null, .val (.ref r166), .unset, .unset, .unset, .unset, .unset] [(.ref b135), (.ref b122)])) rfl (by rw [hml]; rfl) (Steps.refl _) (argsL := [(.ref b135)]) (rest := []) (lenOf own_pd4 rfl) rfl (by show 2 * 0 + _ ≤ _; exact Nat.le_of_eq rfl) (hb hby at_131) (fun _ _ => ⟨rfl, rfl, (by decide : 3 + 0 ≤ _), (by decide : 7 + 0 ≤ _)⟩)
  dsimp only [Pt.U, Pt.locs, Pt.cells, Pt.slots] at X179 l179 y179 z179 st179 hQ179
  subst l179 y179 z179
  obtain ⟨rfl, Nq179, eh179⟩ := hQ179
  have Nf180 := Fr.app Nf167 Nq179
  have A181 : ∀ t, Steps p.tables e below (T179.setTop (mkF m 140 #[.val (.int x1), .val (.int x2), .val (.int x3), .val (.int x4), .val (.int x5), .val (.int u107), .val (.int u111), .val (.int u115), .val (.int u119), .val (.ref b122), .val (.ref b135), .val (.int u163), .val .null, .val (.ref r166), .val (.int (own_eqv b122 b135 x1 x2 u107 (x1 ^^^ u111) (x2 ^^^ u115) u149)), .unset, .unset, .unset, .unset] [(.ref b122), (.ref b135)])) t → Steps p.tables e below (s₁.setTop (entryFrame m #[(.int x1), (.int x2), (.int x3), (.int x4), (.int x5)] maxLocals)) t := by
    intro t k
    refine A178 _ ?_
    refine st179.trans ?_
    show Steps p.tables e below (T179.setTop (mkF m 134 #[.val (.int x1), .val (.int x2), .val (.int x3), .val (.int x4), .val (.int x5), .val (.int u107), .val (.int u111), .val (.int u115), .val (.int u119), .val (.ref b122), .val (.ref b135), .val (.int u163), .val .null, .val (.ref r166), .unset, .unset, .unset, .unset, .unset] [(.int (own_eqv b122 b135 x1 x2 u107 (x1 ^^^ u111) (x2 ^^^ u115) u149))])) _
    refine XS.istore X179.here hx rfl (hb hby at_134) rfl (l' := #[.val (.int x1), .val (.int x2), .val (.int x3), .val (.int x4), .val (.int x5), .val (.int u107), .val (.int u111), .val (.int u115), .val (.int u119), .val (.ref b122), .val (.ref b135), .val (.int u163), .val .null, .val (.ref r166), .val (.int (own_eqv b122 b135 x1 x2 u107 (x1 ^^^ u111) (x2 ^^^ u115) u149)), .unset, .unset, .unset, .unset]) rfl ?_
    show Steps p.tables e below (T179.setTop (mkF m 136 #[.val (.int x1), .val (.int x2), .val (.int x3), .val (.int x4), .val (.int x5), .val (.int u107), .val (.int u111), .val (.int u115), .val (.int u119), .val (.ref b122), .val (.ref b135), .val (.int u163), .val .null, .val (.ref r166), .val (.int (own_eqv b122 b135 x1 x2 u107 (x1 ^^^ u111) (x2 ^^^ u115) u149)), .unset, .unset, .unset, .unset] [])) _
    refine XS.aload X179.here hx rfl (hb hby at_136) rfl rfl ?_
    show Steps p.tables e below (T179.setTop (mkF m 138 #[.val (.int x1), .val (.int x2), .val (.int x3), .val (.int x4), .val (.int x5), .val (.int u107), .val (.int u111), .val (.int u115), .val (.int u119), .val (.ref b122), .val (.ref b135), .val (.int u163), .val .null, .val (.ref r166), .val (.int (own_eqv b122 b135 x1 x2 u107 (x1 ^^^ u111) (x2 ^^^ u115) u149)), .unset, .unset, .unset, .unset] [(.ref b135)])) _
    refine XS.aload X179.here hx rfl (hb hby at_138) rfl rfl ?_
    show Steps p.tables e below (T179.setTop (mkF m 140 #[.val (.int x1), .val (.int x2), .val (.int x3), .val (.int x4), .val (.int x5), .val (.int u107), .val (.int u111), .val (.int u115), .val (.int u119), .val (.ref b122), .val (.ref b135), .val (.int u163), .val .null, .val (.ref r166), .val (.int (own_eqv b122 b135 x1 x2 u107 (x1 ^^^ u111) (x2 ^^^ u115) u149)), .unset, .unset, .unset, .unset] [(.ref b122), (.ref b135)])) _
    exact k
  obtain ⟨cq182, kq182, q182a, q182b, q182c⟩ := isOf hZ eh179 Ex169
  obtain ⟨_, _, ⟨T182, L182, k182, n182⟩, -, X182, ⟨Lc182, hQ182, l182, y182, z182⟩, st182⟩ := X179.virtualBack hx (y := (⟨"com/example/halflight/halflight/Move", "equals", "(Ljava/lang/Object;)Z"⟩ : MethodName)) (z := (⟨"com/example/halflight/halflight/Move", "equals", "(Ljava/lang/Object;)Z"⟩ : MethodName)) hown (mvT hZ (hw _ (List.mem_of_getElem? (i := 27) rfl))) (mvT hZ (hw _ (List.mem_of_getElem? (i := 28) rfl))) (notFace_of_selects (args := #[]) (mvT hZ (hw _ (List.mem_of_getElem? (i := 30) rfl)))) (mvT hZ (hw _ (List.mem_of_getElem? (i := 30) rfl))) (mvT hZ (hw _ (List.mem_of_getElem? (i := 29) rfl))) (by decide) (backOf (W := 0) (own_eqS l Z a0 hw [] b135 b122 (x1 ^^^ u111) (x2 ^^^ u115) u149 x1 x2 u107 T166.heap n0 Zs176 Ex168 Fl173 Fl170 Fl174 Fl171 Fl175 Fl172) hZ (hw _ (List.mem_of_getElem? (i := 31) rfl)) (hw _ (List.mem_of_getElem? (i := 2) rfl)) (by decide) (by decide)) q182a q182c (g := (mkF m 140 #[.val (.int x1), .val (.int x2), .val (.int x3), .val (.int x4), .val (.int x5), .val (.int u107), .val (.int u111), .val (.int u115), .val (.int u119), .val (.ref b122), .val (.ref b135), .val (.int u163), .val .null, .val (.ref r166), .val (.int (own_eqv b122 b135 x1 x2 u107 (x1 ^^^ u111) (x2 ^^^ u115) u149)), .unset, .unset, .unset, .unset] [(.ref b122), (.ref b135)])) rfl (by rw [hml]; rfl) (Steps.refl _) (argsL := [(.ref b122)]) (rest := []) (lenOf own_pd4 rfl) rfl (by show 2 * 0 + _ ≤ _; exact Nat.le_of_eq rfl) (hb hby at_140) (fun _ _ => ⟨rfl, eh179, (by decide : 3 + 0 ≤ _), (by decide : 7 + 0 ≤ _)⟩)
  dsimp only [Pt.U, Pt.locs, Pt.cells, Pt.slots] at X182 l182 y182 z182 st182 hQ182
  subst l182 y182 z182
  obtain ⟨rfl, Nq182, eh182⟩ := hQ182
  have Nf183 := Fr.app Nf180 Nq182
  have A184 : ∀ t, Steps p.tables e below (T182.setTop (mkF m 149 #[.val (.int x1), .val (.int x2), .val (.int x3), .val (.int x4), .val (.int x5), .val (.int u107), .val (.int u111), .val (.int u115), .val (.int u119), .val (.ref b122), .val (.ref b135), .val (.int u163), .val .null, .val (.ref r166), .val (.int (own_eqv b122 b135 x1 x2 u107 (x1 ^^^ u111) (x2 ^^^ u115) u149)), .val (.int (own_eqv b135 b122 (x1 ^^^ u111) (x2 ^^^ u115) u149 x1 x2 u107)), .unset, .unset, .unset] [(.ref b122), (.ref b122)])) t → Steps p.tables e below (s₁.setTop (entryFrame m #[(.int x1), (.int x2), (.int x3), (.int x4), (.int x5)] maxLocals)) t := by
    intro t k
    refine A181 _ ?_
    refine st182.trans ?_
    show Steps p.tables e below (T182.setTop (mkF m 143 #[.val (.int x1), .val (.int x2), .val (.int x3), .val (.int x4), .val (.int x5), .val (.int u107), .val (.int u111), .val (.int u115), .val (.int u119), .val (.ref b122), .val (.ref b135), .val (.int u163), .val .null, .val (.ref r166), .val (.int (own_eqv b122 b135 x1 x2 u107 (x1 ^^^ u111) (x2 ^^^ u115) u149)), .unset, .unset, .unset, .unset] [(.int (own_eqv b135 b122 (x1 ^^^ u111) (x2 ^^^ u115) u149 x1 x2 u107))])) _
    refine XS.istore X182.here hx rfl (hb hby at_143) rfl (l' := #[.val (.int x1), .val (.int x2), .val (.int x3), .val (.int x4), .val (.int x5), .val (.int u107), .val (.int u111), .val (.int u115), .val (.int u119), .val (.ref b122), .val (.ref b135), .val (.int u163), .val .null, .val (.ref r166), .val (.int (own_eqv b122 b135 x1 x2 u107 (x1 ^^^ u111) (x2 ^^^ u115) u149)), .val (.int (own_eqv b135 b122 (x1 ^^^ u111) (x2 ^^^ u115) u149 x1 x2 u107)), .unset, .unset, .unset]) rfl ?_
    show Steps p.tables e below (T182.setTop (mkF m 145 #[.val (.int x1), .val (.int x2), .val (.int x3), .val (.int x4), .val (.int x5), .val (.int u107), .val (.int u111), .val (.int u115), .val (.int u119), .val (.ref b122), .val (.ref b135), .val (.int u163), .val .null, .val (.ref r166), .val (.int (own_eqv b122 b135 x1 x2 u107 (x1 ^^^ u111) (x2 ^^^ u115) u149)), .val (.int (own_eqv b135 b122 (x1 ^^^ u111) (x2 ^^^ u115) u149 x1 x2 u107)), .unset, .unset, .unset] [])) _
    refine XS.aload X182.here hx rfl (hb hby at_145) rfl rfl ?_
    show Steps p.tables e below (T182.setTop (mkF m 147 #[.val (.int x1), .val (.int x2), .val (.int x3), .val (.int x4), .val (.int x5), .val (.int u107), .val (.int u111), .val (.int u115), .val (.int u119), .val (.ref b122), .val (.ref b135), .val (.int u163), .val .null, .val (.ref r166), .val (.int (own_eqv b122 b135 x1 x2 u107 (x1 ^^^ u111) (x2 ^^^ u115) u149)), .val (.int (own_eqv b135 b122 (x1 ^^^ u111) (x2 ^^^ u115) u149 x1 x2 u107)), .unset, .unset, .unset] [(.ref b122)])) _
    refine XS.aload X182.here hx rfl (hb hby at_147) rfl rfl ?_
    show Steps p.tables e below (T182.setTop (mkF m 149 #[.val (.int x1), .val (.int x2), .val (.int x3), .val (.int x4), .val (.int x5), .val (.int u107), .val (.int u111), .val (.int u115), .val (.int u119), .val (.ref b122), .val (.ref b135), .val (.int u163), .val .null, .val (.ref r166), .val (.int (own_eqv b122 b135 x1 x2 u107 (x1 ^^^ u111) (x2 ^^^ u115) u149)), .val (.int (own_eqv b135 b122 (x1 ^^^ u111) (x2 ^^^ u115) u149 x1 x2 u107)), .unset, .unset, .unset] [(.ref b122), (.ref b122)])) _
    exact k
  obtain ⟨cq185, kq185, q185a, q185b, q185c⟩ := isOf hZ eh182 Ex168
  obtain ⟨_, _, ⟨T185, L185, k185, n185⟩, -, X185, ⟨Lc185, hQ185, l185, y185, z185⟩, st185⟩ := X182.virtualBack hx (y := (⟨"com/example/halflight/halflight/Move", "equals", "(Ljava/lang/Object;)Z"⟩ : MethodName)) (z := (⟨"com/example/halflight/halflight/Move", "equals", "(Ljava/lang/Object;)Z"⟩ : MethodName)) hown (mvT hZ (hw _ (List.mem_of_getElem? (i := 27) rfl))) (mvT hZ (hw _ (List.mem_of_getElem? (i := 28) rfl))) (notFace_of_selects (args := #[]) (mvT hZ (hw _ (List.mem_of_getElem? (i := 30) rfl)))) (mvT hZ (hw _ (List.mem_of_getElem? (i := 30) rfl))) (mvT hZ (hw _ (List.mem_of_getElem? (i := 29) rfl))) (by decide) (backOf (W := 0) (own_eqS l Z a0 hw [] b122 b122 x1 x2 u107 x1 x2 u107 T166.heap n0 Zs176 Ex168 Fl170 Fl170 Fl171 Fl171 Fl172 Fl172) hZ (hw _ (List.mem_of_getElem? (i := 31) rfl)) (hw _ (List.mem_of_getElem? (i := 2) rfl)) (by decide) (by decide)) q185a q185c (g := (mkF m 149 #[.val (.int x1), .val (.int x2), .val (.int x3), .val (.int x4), .val (.int x5), .val (.int u107), .val (.int u111), .val (.int u115), .val (.int u119), .val (.ref b122), .val (.ref b135), .val (.int u163), .val .null, .val (.ref r166), .val (.int (own_eqv b122 b135 x1 x2 u107 (x1 ^^^ u111) (x2 ^^^ u115) u149)), .val (.int (own_eqv b135 b122 (x1 ^^^ u111) (x2 ^^^ u115) u149 x1 x2 u107)), .unset, .unset, .unset] [(.ref b122), (.ref b122)])) rfl (by rw [hml]; rfl) (Steps.refl _) (argsL := [(.ref b122)]) (rest := []) (lenOf own_pd4 rfl) rfl (by show 2 * 0 + _ ≤ _; exact Nat.le_of_eq rfl) (hb hby at_149) (fun _ _ => ⟨rfl, eh182, (by decide : 3 + 0 ≤ _), (by decide : 7 + 0 ≤ _)⟩)
  dsimp only [Pt.U, Pt.locs, Pt.cells, Pt.slots] at X185 l185 y185 z185 st185 hQ185
  subst l185 y185 z185
  obtain ⟨rfl, Nq185, eh185⟩ := hQ185
  have Nf186 := Fr.app Nf183 Nq185
  have A187 : ∀ t, Steps p.tables e below (T185.setTop (mkF m 158 #[.val (.int x1), .val (.int x2), .val (.int x3), .val (.int x4), .val (.int x5), .val (.int u107), .val (.int u111), .val (.int u115), .val (.int u119), .val (.ref b122), .val (.ref b135), .val (.int u163), .val .null, .val (.ref r166), .val (.int (own_eqv b122 b135 x1 x2 u107 (x1 ^^^ u111) (x2 ^^^ u115) u149)), .val (.int (own_eqv b135 b122 (x1 ^^^ u111) (x2 ^^^ u115) u149 x1 x2 u107)), .val (.int (own_eqv b122 b122 x1 x2 u107 x1 x2 u107)), .unset, .unset] [.null, (.ref b122)])) t → Steps p.tables e below (s₁.setTop (entryFrame m #[(.int x1), (.int x2), (.int x3), (.int x4), (.int x5)] maxLocals)) t := by
    intro t k
    refine A184 _ ?_
    refine st185.trans ?_
    show Steps p.tables e below (T185.setTop (mkF m 152 #[.val (.int x1), .val (.int x2), .val (.int x3), .val (.int x4), .val (.int x5), .val (.int u107), .val (.int u111), .val (.int u115), .val (.int u119), .val (.ref b122), .val (.ref b135), .val (.int u163), .val .null, .val (.ref r166), .val (.int (own_eqv b122 b135 x1 x2 u107 (x1 ^^^ u111) (x2 ^^^ u115) u149)), .val (.int (own_eqv b135 b122 (x1 ^^^ u111) (x2 ^^^ u115) u149 x1 x2 u107)), .unset, .unset, .unset] [(.int (own_eqv b122 b122 x1 x2 u107 x1 x2 u107))])) _
    refine XS.istore X185.here hx rfl (hb hby at_152) rfl (l' := #[.val (.int x1), .val (.int x2), .val (.int x3), .val (.int x4), .val (.int x5), .val (.int u107), .val (.int u111), .val (.int u115), .val (.int u119), .val (.ref b122), .val (.ref b135), .val (.int u163), .val .null, .val (.ref r166), .val (.int (own_eqv b122 b135 x1 x2 u107 (x1 ^^^ u111) (x2 ^^^ u115) u149)), .val (.int (own_eqv b135 b122 (x1 ^^^ u111) (x2 ^^^ u115) u149 x1 x2 u107)), .val (.int (own_eqv b122 b122 x1 x2 u107 x1 x2 u107)), .unset, .unset]) rfl ?_
    show Steps p.tables e below (T185.setTop (mkF m 154 #[.val (.int x1), .val (.int x2), .val (.int x3), .val (.int x4), .val (.int x5), .val (.int u107), .val (.int u111), .val (.int u115), .val (.int u119), .val (.ref b122), .val (.ref b135), .val (.int u163), .val .null, .val (.ref r166), .val (.int (own_eqv b122 b135 x1 x2 u107 (x1 ^^^ u111) (x2 ^^^ u115) u149)), .val (.int (own_eqv b135 b122 (x1 ^^^ u111) (x2 ^^^ u115) u149 x1 x2 u107)), .val (.int (own_eqv b122 b122 x1 x2 u107 x1 x2 u107)), .unset, .unset] [])) _
    refine XS.aload X185.here hx rfl (hb hby at_154) rfl rfl ?_
    show Steps p.tables e below (T185.setTop (mkF m 156 #[.val (.int x1), .val (.int x2), .val (.int x3), .val (.int x4), .val (.int x5), .val (.int u107), .val (.int u111), .val (.int u115), .val (.int u119), .val (.ref b122), .val (.ref b135), .val (.int u163), .val .null, .val (.ref r166), .val (.int (own_eqv b122 b135 x1 x2 u107 (x1 ^^^ u111) (x2 ^^^ u115) u149)), .val (.int (own_eqv b135 b122 (x1 ^^^ u111) (x2 ^^^ u115) u149 x1 x2 u107)), .val (.int (own_eqv b122 b122 x1 x2 u107 x1 x2 u107)), .unset, .unset] [(.ref b122)])) _
    refine XS.aload X185.here hx rfl (hb hby at_156) rfl rfl ?_
    show Steps p.tables e below (T185.setTop (mkF m 158 #[.val (.int x1), .val (.int x2), .val (.int x3), .val (.int x4), .val (.int x5), .val (.int u107), .val (.int u111), .val (.int u115), .val (.int u119), .val (.ref b122), .val (.ref b135), .val (.int u163), .val .null, .val (.ref r166), .val (.int (own_eqv b122 b135 x1 x2 u107 (x1 ^^^ u111) (x2 ^^^ u115) u149)), .val (.int (own_eqv b135 b122 (x1 ^^^ u111) (x2 ^^^ u115) u149 x1 x2 u107)), .val (.int (own_eqv b122 b122 x1 x2 u107 x1 x2 u107)), .unset, .unset] [.null, (.ref b122)])) _
    exact k
  obtain ⟨cq188, kq188, q188a, q188b, q188c⟩ := isOf hZ eh185 Ex168
  obtain ⟨_, _, ⟨T188, L188, k188, n188⟩, -, X188, ⟨Lc188, hQ188, l188, y188, z188⟩, st188⟩ := X185.virtualBack hx (y := (⟨"com/example/halflight/halflight/Move", "equals", "(Ljava/lang/Object;)Z"⟩ : MethodName)) (z := (⟨"com/example/halflight/halflight/Move", "equals", "(Ljava/lang/Object;)Z"⟩ : MethodName)) hown (mvT hZ (hw _ (List.mem_of_getElem? (i := 27) rfl))) (mvT hZ (hw _ (List.mem_of_getElem? (i := 28) rfl))) (notFace_of_selects (args := #[]) (mvT hZ (hw _ (List.mem_of_getElem? (i := 30) rfl)))) (mvT hZ (hw _ (List.mem_of_getElem? (i := 30) rfl))) (mvT hZ (hw _ (List.mem_of_getElem? (i := 29) rfl))) (by decide) (backOf (W := 0) (own_eqN l Z a0 hw [] b122 T166.heap n0 Zs176) hZ (hw _ (List.mem_of_getElem? (i := 31) rfl)) (hw _ (List.mem_of_getElem? (i := 2) rfl)) (by decide) (by decide)) q188a q188c (g := (mkF m 158 #[.val (.int x1), .val (.int x2), .val (.int x3), .val (.int x4), .val (.int x5), .val (.int u107), .val (.int u111), .val (.int u115), .val (.int u119), .val (.ref b122), .val (.ref b135), .val (.int u163), .val .null, .val (.ref r166), .val (.int (own_eqv b122 b135 x1 x2 u107 (x1 ^^^ u111) (x2 ^^^ u115) u149)), .val (.int (own_eqv b135 b122 (x1 ^^^ u111) (x2 ^^^ u115) u149 x1 x2 u107)), .val (.int (own_eqv b122 b122 x1 x2 u107 x1 x2 u107)), .unset, .unset] [.null, (.ref b122)])) rfl (by rw [hml]; rfl) (Steps.refl _) (argsL := [.null]) (rest := []) (lenOf own_pd4 rfl) rfl (by show 2 * 0 + _ ≤ _; exact Nat.le_of_eq rfl) (hb hby at_158) (fun _ _ => ⟨rfl, eh185, (by decide : 3 + 0 ≤ _), (by decide : 7 + 0 ≤ _)⟩)
  dsimp only [Pt.U, Pt.locs, Pt.cells, Pt.slots] at X188 l188 y188 z188 st188 hQ188
  subst l188 y188 z188
  obtain ⟨rfl, Nq188, eh188⟩ := hQ188
  have Nf189 := Fr.app Nf186 Nq188
  have A190 : ∀ t, Steps p.tables e below (T188.setTop (mkF m 167 #[.val (.int x1), .val (.int x2), .val (.int x3), .val (.int x4), .val (.int x5), .val (.int u107), .val (.int u111), .val (.int u115), .val (.int u119), .val (.ref b122), .val (.ref b135), .val (.int u163), .val .null, .val (.ref r166), .val (.int (own_eqv b122 b135 x1 x2 u107 (x1 ^^^ u111) (x2 ^^^ u115) u149)), .val (.int (own_eqv b135 b122 (x1 ^^^ u111) (x2 ^^^ u115) u149 x1 x2 u107)), .val (.int (own_eqv b122 b122 x1 x2 u107 x1 x2 u107)), .val (.int (0 : Int32)), .unset] [(.ref r166), (.ref b122)])) t → Steps p.tables e below (s₁.setTop (entryFrame m #[(.int x1), (.int x2), (.int x3), (.int x4), (.int x5)] maxLocals)) t := by
    intro t k
    refine A187 _ ?_
    refine st188.trans ?_
    show Steps p.tables e below (T188.setTop (mkF m 161 #[.val (.int x1), .val (.int x2), .val (.int x3), .val (.int x4), .val (.int x5), .val (.int u107), .val (.int u111), .val (.int u115), .val (.int u119), .val (.ref b122), .val (.ref b135), .val (.int u163), .val .null, .val (.ref r166), .val (.int (own_eqv b122 b135 x1 x2 u107 (x1 ^^^ u111) (x2 ^^^ u115) u149)), .val (.int (own_eqv b135 b122 (x1 ^^^ u111) (x2 ^^^ u115) u149 x1 x2 u107)), .val (.int (own_eqv b122 b122 x1 x2 u107 x1 x2 u107)), .unset, .unset] [(.int (0 : Int32))])) _
    refine XS.istore X188.here hx rfl (hb hby at_161) rfl (l' := #[.val (.int x1), .val (.int x2), .val (.int x3), .val (.int x4), .val (.int x5), .val (.int u107), .val (.int u111), .val (.int u115), .val (.int u119), .val (.ref b122), .val (.ref b135), .val (.int u163), .val .null, .val (.ref r166), .val (.int (own_eqv b122 b135 x1 x2 u107 (x1 ^^^ u111) (x2 ^^^ u115) u149)), .val (.int (own_eqv b135 b122 (x1 ^^^ u111) (x2 ^^^ u115) u149 x1 x2 u107)), .val (.int (own_eqv b122 b122 x1 x2 u107 x1 x2 u107)), .val (.int (0 : Int32)), .unset]) rfl ?_
    show Steps p.tables e below (T188.setTop (mkF m 163 #[.val (.int x1), .val (.int x2), .val (.int x3), .val (.int x4), .val (.int x5), .val (.int u107), .val (.int u111), .val (.int u115), .val (.int u119), .val (.ref b122), .val (.ref b135), .val (.int u163), .val .null, .val (.ref r166), .val (.int (own_eqv b122 b135 x1 x2 u107 (x1 ^^^ u111) (x2 ^^^ u115) u149)), .val (.int (own_eqv b135 b122 (x1 ^^^ u111) (x2 ^^^ u115) u149 x1 x2 u107)), .val (.int (own_eqv b122 b122 x1 x2 u107 x1 x2 u107)), .val (.int (0 : Int32)), .unset] [])) _
    refine XS.aload X188.here hx rfl (hb hby at_163) rfl rfl ?_
    show Steps p.tables e below (T188.setTop (mkF m 165 #[.val (.int x1), .val (.int x2), .val (.int x3), .val (.int x4), .val (.int x5), .val (.int u107), .val (.int u111), .val (.int u115), .val (.int u119), .val (.ref b122), .val (.ref b135), .val (.int u163), .val .null, .val (.ref r166), .val (.int (own_eqv b122 b135 x1 x2 u107 (x1 ^^^ u111) (x2 ^^^ u115) u149)), .val (.int (own_eqv b135 b122 (x1 ^^^ u111) (x2 ^^^ u115) u149 x1 x2 u107)), .val (.int (own_eqv b122 b122 x1 x2 u107 x1 x2 u107)), .val (.int (0 : Int32)), .unset] [(.ref b122)])) _
    refine XS.aload X188.here hx rfl (hb hby at_165) rfl rfl ?_
    show Steps p.tables e below (T188.setTop (mkF m 167 #[.val (.int x1), .val (.int x2), .val (.int x3), .val (.int x4), .val (.int x5), .val (.int u107), .val (.int u111), .val (.int u115), .val (.int u119), .val (.ref b122), .val (.ref b135), .val (.int u163), .val .null, .val (.ref r166), .val (.int (own_eqv b122 b135 x1 x2 u107 (x1 ^^^ u111) (x2 ^^^ u115) u149)), .val (.int (own_eqv b135 b122 (x1 ^^^ u111) (x2 ^^^ u115) u149 x1 x2 u107)), .val (.int (own_eqv b122 b122 x1 x2 u107 x1 x2 u107)), .val (.int (0 : Int32)), .unset] [(.ref r166), (.ref b122)])) _
    exact k
  obtain ⟨cq191, kq191, q191a, q191b, q191c⟩ := isOf hZ eh188 Ex168
  obtain ⟨_, _, ⟨T191, L191, k191, n191⟩, -, X191, ⟨Lc191, hQ191, l191, y191, z191⟩, st191⟩ := X188.virtualBack hx (y := (⟨"com/example/halflight/halflight/Move", "equals", "(Ljava/lang/Object;)Z"⟩ : MethodName)) (z := (⟨"com/example/halflight/halflight/Move", "equals", "(Ljava/lang/Object;)Z"⟩ : MethodName)) hown (mvT hZ (hw _ (List.mem_of_getElem? (i := 27) rfl))) (mvT hZ (hw _ (List.mem_of_getElem? (i := 28) rfl))) (notFace_of_selects (args := #[]) (mvT hZ (hw _ (List.mem_of_getElem? (i := 30) rfl)))) (mvT hZ (hw _ (List.mem_of_getElem? (i := 30) rfl))) (mvT hZ (hw _ (List.mem_of_getElem? (i := 29) rfl))) (by decide) (backOf (W := 0) (own_eqI l Z a0 hw [] b122 r166 T166.heap n0 Zs176 Ex168 Er166) hZ (hw _ (List.mem_of_getElem? (i := 31) rfl)) (hw _ (List.mem_of_getElem? (i := 2) rfl)) (by decide) (by decide)) q191a q191c (g := (mkF m 167 #[.val (.int x1), .val (.int x2), .val (.int x3), .val (.int x4), .val (.int x5), .val (.int u107), .val (.int u111), .val (.int u115), .val (.int u119), .val (.ref b122), .val (.ref b135), .val (.int u163), .val .null, .val (.ref r166), .val (.int (own_eqv b122 b135 x1 x2 u107 (x1 ^^^ u111) (x2 ^^^ u115) u149)), .val (.int (own_eqv b135 b122 (x1 ^^^ u111) (x2 ^^^ u115) u149 x1 x2 u107)), .val (.int (own_eqv b122 b122 x1 x2 u107 x1 x2 u107)), .val (.int (0 : Int32)), .unset] [(.ref r166), (.ref b122)])) rfl (by rw [hml]; rfl) (Steps.refl _) (argsL := [(.ref r166)]) (rest := []) (lenOf own_pd4 rfl) rfl (by show 2 * 0 + _ ≤ _; exact Nat.le_of_eq rfl) (hb hby at_167) (fun _ _ => ⟨rfl, eh188, (by decide : 3 + 0 ≤ _), (by decide : 7 + 0 ≤ _)⟩)
  dsimp only [Pt.U, Pt.locs, Pt.cells, Pt.slots] at X191 l191 y191 z191 st191 hQ191
  subst l191 y191 z191
  obtain ⟨rfl, Nq191, eh191⟩ := hQ191
  have Nf192 := Fr.app Nf189 Nq191
  have A193 : ∀ t, Steps p.tables e below (T191.setTop (mkF m 170 #[.val (.int x1), .val (.int x2), .val (.int x3), .val (.int x4), .val (.int x5), .val (.int u107), .val (.int u111), .val (.int u115), .val (.int u119), .val (.ref b122), .val (.ref b135), .val (.int u163), .val .null, .val (.ref r166), .val (.int (own_eqv b122 b135 x1 x2 u107 (x1 ^^^ u111) (x2 ^^^ u115) u149)), .val (.int (own_eqv b135 b122 (x1 ^^^ u111) (x2 ^^^ u115) u149 x1 x2 u107)), .val (.int (own_eqv b122 b122 x1 x2 u107 x1 x2 u107)), .val (.int (0 : Int32)), .unset] [(.int (0 : Int32))])) t → Steps p.tables e below (s₁.setTop (entryFrame m #[(.int x1), (.int x2), (.int x3), (.int x4), (.int x5)] maxLocals)) t := by
    intro t k
    refine A190 _ ?_
    refine st191.trans ?_
    show Steps p.tables e below (T191.setTop (mkF m 170 #[.val (.int x1), .val (.int x2), .val (.int x3), .val (.int x4), .val (.int x5), .val (.int u107), .val (.int u111), .val (.int u115), .val (.int u119), .val (.ref b122), .val (.ref b135), .val (.int u163), .val .null, .val (.ref r166), .val (.int (own_eqv b122 b135 x1 x2 u107 (x1 ^^^ u111) (x2 ^^^ u115) u149)), .val (.int (own_eqv b135 b122 (x1 ^^^ u111) (x2 ^^^ u115) u149 x1 x2 u107)), .val (.int (own_eqv b122 b122 x1 x2 u107 x1 x2 u107)), .val (.int (0 : Int32)), .unset] [(.int (0 : Int32))])) _
    exact k
  have hfin := own_fin b122 b135 (a := x1) (b := x2) hu01 hd01 hu149 hu163
  have hs1 : ¬ ((own_eqv b122 b122 x1 x2 u107 x1 x2 u107) = (0 : Int32)) := by simp [own_eqv]
  have A194 : ∀ t, Steps p.tables e below (T191.setTop (mkF m 206 #[.val (.int x1), .val (.int x2), .val (.int x3), .val (.int x4), .val (.int x5), .val (.int u107), .val (.int u111), .val (.int u115), .val (.int u119), .val (.ref b122), .val (.ref b135), .val (.int u163), .val .null, .val (.ref r166), .val (.int (own_eqv b122 b135 x1 x2 u107 (x1 ^^^ u111) (x2 ^^^ u115) u149)), .val (.int (own_eqv b135 b122 (x1 ^^^ u111) (x2 ^^^ u115) u149 x1 x2 u107)), .val (.int (own_eqv b122 b122 x1 x2 u107 x1 x2 u107)), .val (.int (0 : Int32)), .val (.int (0 : Int32))] [(.int (1 : Int32))])) t → Steps p.tables e below (s₁.setTop (entryFrame m #[(.int x1), (.int x2), (.int x3), (.int x4), (.int x5)] maxLocals)) t := by
    intro t k
    refine A193 _ ?_
    refine XS.istore X191.here hx rfl (hb hby at_170) rfl (l' := #[.val (.int x1), .val (.int x2), .val (.int x3), .val (.int x4), .val (.int x5), .val (.int u107), .val (.int u111), .val (.int u115), .val (.int u119), .val (.ref b122), .val (.ref b135), .val (.int u163), .val .null, .val (.ref r166), .val (.int (own_eqv b122 b135 x1 x2 u107 (x1 ^^^ u111) (x2 ^^^ u115) u149)), .val (.int (own_eqv b135 b122 (x1 ^^^ u111) (x2 ^^^ u115) u149 x1 x2 u107)), .val (.int (own_eqv b122 b122 x1 x2 u107 x1 x2 u107)), .val (.int (0 : Int32)), .val (.int (0 : Int32))]) rfl ?_
    show Steps p.tables e below (T191.setTop (mkF m 172 #[.val (.int x1), .val (.int x2), .val (.int x3), .val (.int x4), .val (.int x5), .val (.int u107), .val (.int u111), .val (.int u115), .val (.int u119), .val (.ref b122), .val (.ref b135), .val (.int u163), .val .null, .val (.ref r166), .val (.int (own_eqv b122 b135 x1 x2 u107 (x1 ^^^ u111) (x2 ^^^ u115) u149)), .val (.int (own_eqv b135 b122 (x1 ^^^ u111) (x2 ^^^ u115) u149 x1 x2 u107)), .val (.int (own_eqv b122 b122 x1 x2 u107 x1 x2 u107)), .val (.int (0 : Int32)), .val (.int (0 : Int32))] [])) _
    refine XS.iload X191.here hx rfl (hb hby at_172) rfl ?_
    show Steps p.tables e below (T191.setTop (mkF m 174 #[.val (.int x1), .val (.int x2), .val (.int x3), .val (.int x4), .val (.int x5), .val (.int u107), .val (.int u111), .val (.int u115), .val (.int u119), .val (.ref b122), .val (.ref b135), .val (.int u163), .val .null, .val (.ref r166), .val (.int (own_eqv b122 b135 x1 x2 u107 (x1 ^^^ u111) (x2 ^^^ u115) u149)), .val (.int (own_eqv b135 b122 (x1 ^^^ u111) (x2 ^^^ u115) u149 x1 x2 u107)), .val (.int (own_eqv b122 b122 x1 x2 u107 x1 x2 u107)), .val (.int (0 : Int32)), .val (.int (0 : Int32))] [(.int (own_eqv b122 b135 x1 x2 u107 (x1 ^^^ u111) (x2 ^^^ u115) u149))])) _
    refine XS.iload X191.here hx rfl (hb hby at_174) rfl ?_
    show Steps p.tables e below (T191.setTop (mkF m 176 #[.val (.int x1), .val (.int x2), .val (.int x3), .val (.int x4), .val (.int x5), .val (.int u107), .val (.int u111), .val (.int u115), .val (.int u119), .val (.ref b122), .val (.ref b135), .val (.int u163), .val .null, .val (.ref r166), .val (.int (own_eqv b122 b135 x1 x2 u107 (x1 ^^^ u111) (x2 ^^^ u115) u149)), .val (.int (own_eqv b135 b122 (x1 ^^^ u111) (x2 ^^^ u115) u149 x1 x2 u107)), .val (.int (own_eqv b122 b122 x1 x2 u107 x1 x2 u107)), .val (.int (0 : Int32)), .val (.int (0 : Int32))] [(.int u163), (.int (own_eqv b122 b135 x1 x2 u107 (x1 ^^^ u111) (x2 ^^^ u115) u149))])) _
    refine XS.icmpNo X191.here hx rfl (hb hby at_176) rfl (teq hfin.1).2 ?_
    show Steps p.tables e below (T191.setTop (mkF m 179 #[.val (.int x1), .val (.int x2), .val (.int x3), .val (.int x4), .val (.int x5), .val (.int u107), .val (.int u111), .val (.int u115), .val (.int u119), .val (.ref b122), .val (.ref b135), .val (.int u163), .val .null, .val (.ref r166), .val (.int (own_eqv b122 b135 x1 x2 u107 (x1 ^^^ u111) (x2 ^^^ u115) u149)), .val (.int (own_eqv b135 b122 (x1 ^^^ u111) (x2 ^^^ u115) u149 x1 x2 u107)), .val (.int (own_eqv b122 b122 x1 x2 u107 x1 x2 u107)), .val (.int (0 : Int32)), .val (.int (0 : Int32))] [])) _
    refine XS.iload X191.here hx rfl (hb hby at_179) rfl ?_
    show Steps p.tables e below (T191.setTop (mkF m 181 #[.val (.int x1), .val (.int x2), .val (.int x3), .val (.int x4), .val (.int x5), .val (.int u107), .val (.int u111), .val (.int u115), .val (.int u119), .val (.ref b122), .val (.ref b135), .val (.int u163), .val .null, .val (.ref r166), .val (.int (own_eqv b122 b135 x1 x2 u107 (x1 ^^^ u111) (x2 ^^^ u115) u149)), .val (.int (own_eqv b135 b122 (x1 ^^^ u111) (x2 ^^^ u115) u149 x1 x2 u107)), .val (.int (own_eqv b122 b122 x1 x2 u107 x1 x2 u107)), .val (.int (0 : Int32)), .val (.int (0 : Int32))] [(.int (own_eqv b135 b122 (x1 ^^^ u111) (x2 ^^^ u115) u149 x1 x2 u107))])) _
    refine XS.iload X191.here hx rfl (hb hby at_181) rfl ?_
    show Steps p.tables e below (T191.setTop (mkF m 183 #[.val (.int x1), .val (.int x2), .val (.int x3), .val (.int x4), .val (.int x5), .val (.int u107), .val (.int u111), .val (.int u115), .val (.int u119), .val (.ref b122), .val (.ref b135), .val (.int u163), .val .null, .val (.ref r166), .val (.int (own_eqv b122 b135 x1 x2 u107 (x1 ^^^ u111) (x2 ^^^ u115) u149)), .val (.int (own_eqv b135 b122 (x1 ^^^ u111) (x2 ^^^ u115) u149 x1 x2 u107)), .val (.int (own_eqv b122 b122 x1 x2 u107 x1 x2 u107)), .val (.int (0 : Int32)), .val (.int (0 : Int32))] [(.int u163), (.int (own_eqv b135 b122 (x1 ^^^ u111) (x2 ^^^ u115) u149 x1 x2 u107))])) _
    refine XS.icmpNo X191.here hx rfl (hb hby at_183) rfl (teq hfin.2).2 ?_
    show Steps p.tables e below (T191.setTop (mkF m 186 #[.val (.int x1), .val (.int x2), .val (.int x3), .val (.int x4), .val (.int x5), .val (.int u107), .val (.int u111), .val (.int u115), .val (.int u119), .val (.ref b122), .val (.ref b135), .val (.int u163), .val .null, .val (.ref r166), .val (.int (own_eqv b122 b135 x1 x2 u107 (x1 ^^^ u111) (x2 ^^^ u115) u149)), .val (.int (own_eqv b135 b122 (x1 ^^^ u111) (x2 ^^^ u115) u149 x1 x2 u107)), .val (.int (own_eqv b122 b122 x1 x2 u107 x1 x2 u107)), .val (.int (0 : Int32)), .val (.int (0 : Int32))] [])) _
    refine XS.iload X191.here hx rfl (hb hby at_186) rfl ?_
    show Steps p.tables e below (T191.setTop (mkF m 188 #[.val (.int x1), .val (.int x2), .val (.int x3), .val (.int x4), .val (.int x5), .val (.int u107), .val (.int u111), .val (.int u115), .val (.int u119), .val (.ref b122), .val (.ref b135), .val (.int u163), .val .null, .val (.ref r166), .val (.int (own_eqv b122 b135 x1 x2 u107 (x1 ^^^ u111) (x2 ^^^ u115) u149)), .val (.int (own_eqv b135 b122 (x1 ^^^ u111) (x2 ^^^ u115) u149 x1 x2 u107)), .val (.int (own_eqv b122 b122 x1 x2 u107 x1 x2 u107)), .val (.int (0 : Int32)), .val (.int (0 : Int32))] [(.int (own_eqv b122 b122 x1 x2 u107 x1 x2 u107))])) _
    refine XS.ifNo X191.here hx rfl (hb hby at_188) rfl ((if0 _ _).trans (feq hs1).1) ?_
    show Steps p.tables e below (T191.setTop (mkF m 191 #[.val (.int x1), .val (.int x2), .val (.int x3), .val (.int x4), .val (.int x5), .val (.int u107), .val (.int u111), .val (.int u115), .val (.int u119), .val (.ref b122), .val (.ref b135), .val (.int u163), .val .null, .val (.ref r166), .val (.int (own_eqv b122 b135 x1 x2 u107 (x1 ^^^ u111) (x2 ^^^ u115) u149)), .val (.int (own_eqv b135 b122 (x1 ^^^ u111) (x2 ^^^ u115) u149 x1 x2 u107)), .val (.int (own_eqv b122 b122 x1 x2 u107 x1 x2 u107)), .val (.int (0 : Int32)), .val (.int (0 : Int32))] [])) _
    refine XS.iload X191.here hx rfl (hb hby at_191) rfl ?_
    show Steps p.tables e below (T191.setTop (mkF m 193 #[.val (.int x1), .val (.int x2), .val (.int x3), .val (.int x4), .val (.int x5), .val (.int u107), .val (.int u111), .val (.int u115), .val (.int u119), .val (.ref b122), .val (.ref b135), .val (.int u163), .val .null, .val (.ref r166), .val (.int (own_eqv b122 b135 x1 x2 u107 (x1 ^^^ u111) (x2 ^^^ u115) u149)), .val (.int (own_eqv b135 b122 (x1 ^^^ u111) (x2 ^^^ u115) u149 x1 x2 u107)), .val (.int (own_eqv b122 b122 x1 x2 u107 x1 x2 u107)), .val (.int (0 : Int32)), .val (.int (0 : Int32))] [(.int (0 : Int32))])) _
    refine XS.ifNo X191.here hx rfl (hb hby at_193) rfl ((if0 _ _).trans (teq (by decide : ((0 : Int32) = (0 : Int32)))).2) ?_
    show Steps p.tables e below (T191.setTop (mkF m 196 #[.val (.int x1), .val (.int x2), .val (.int x3), .val (.int x4), .val (.int x5), .val (.int u107), .val (.int u111), .val (.int u115), .val (.int u119), .val (.ref b122), .val (.ref b135), .val (.int u163), .val .null, .val (.ref r166), .val (.int (own_eqv b122 b135 x1 x2 u107 (x1 ^^^ u111) (x2 ^^^ u115) u149)), .val (.int (own_eqv b135 b122 (x1 ^^^ u111) (x2 ^^^ u115) u149 x1 x2 u107)), .val (.int (own_eqv b122 b122 x1 x2 u107 x1 x2 u107)), .val (.int (0 : Int32)), .val (.int (0 : Int32))] [])) _
    refine XS.iload X191.here hx rfl (hb hby at_196) rfl ?_
    show Steps p.tables e below (T191.setTop (mkF m 198 #[.val (.int x1), .val (.int x2), .val (.int x3), .val (.int x4), .val (.int x5), .val (.int u107), .val (.int u111), .val (.int u115), .val (.int u119), .val (.ref b122), .val (.ref b135), .val (.int u163), .val .null, .val (.ref r166), .val (.int (own_eqv b122 b135 x1 x2 u107 (x1 ^^^ u111) (x2 ^^^ u115) u149)), .val (.int (own_eqv b135 b122 (x1 ^^^ u111) (x2 ^^^ u115) u149 x1 x2 u107)), .val (.int (own_eqv b122 b122 x1 x2 u107 x1 x2 u107)), .val (.int (0 : Int32)), .val (.int (0 : Int32))] [(.int (0 : Int32))])) _
    refine XS.ifNo X191.here hx rfl (hb hby at_198) rfl ((if0 _ _).trans (teq (by decide : ((0 : Int32) = (0 : Int32)))).2) ?_
    show Steps p.tables e below (T191.setTop (mkF m 201 #[.val (.int x1), .val (.int x2), .val (.int x3), .val (.int x4), .val (.int x5), .val (.int u107), .val (.int u111), .val (.int u115), .val (.int u119), .val (.ref b122), .val (.ref b135), .val (.int u163), .val .null, .val (.ref r166), .val (.int (own_eqv b122 b135 x1 x2 u107 (x1 ^^^ u111) (x2 ^^^ u115) u149)), .val (.int (own_eqv b135 b122 (x1 ^^^ u111) (x2 ^^^ u115) u149 x1 x2 u107)), .val (.int (own_eqv b122 b122 x1 x2 u107 x1 x2 u107)), .val (.int (0 : Int32)), .val (.int (0 : Int32))] [])) _
    refine XS.iconst X191.here hx rfl (hb hby at_201) ?_
    show Steps p.tables e below (T191.setTop (mkF m 202 #[.val (.int x1), .val (.int x2), .val (.int x3), .val (.int x4), .val (.int x5), .val (.int u107), .val (.int u111), .val (.int u115), .val (.int u119), .val (.ref b122), .val (.ref b135), .val (.int u163), .val .null, .val (.ref r166), .val (.int (own_eqv b122 b135 x1 x2 u107 (x1 ^^^ u111) (x2 ^^^ u115) u149)), .val (.int (own_eqv b135 b122 (x1 ^^^ u111) (x2 ^^^ u115) u149 x1 x2 u107)), .val (.int (own_eqv b122 b122 x1 x2 u107 x1 x2 u107)), .val (.int (0 : Int32)), .val (.int (0 : Int32))] [(.int (1 : Int32))])) _
    refine XS.goto X191.here hx rfl (pc0 := 202) (pc' := 206) rfl (hb hby at_202) (by decide) (by decide) ?_
    show Steps p.tables e below (T191.setTop (mkF m 206 #[.val (.int x1), .val (.int x2), .val (.int x3), .val (.int x4), .val (.int x5), .val (.int u107), .val (.int u111), .val (.int u115), .val (.int u119), .val (.ref b122), .val (.ref b135), .val (.int u163), .val .null, .val (.ref r166), .val (.int (own_eqv b122 b135 x1 x2 u107 (x1 ^^^ u111) (x2 ^^^ u115) u149)), .val (.int (own_eqv b135 b122 (x1 ^^^ u111) (x2 ^^^ u115) u149 x1 x2 u107)), .val (.int (own_eqv b122 b122 x1 x2 u107 x1 x2 u107)), .val (.int (0 : Int32)), .val (.int (0 : Int32))] [(.int (1 : Int32))])) _
    exact k
  obtain ⟨fs, hr, hrun, hended, hW, hsame⟩ := X191.leave (v := some (.int (1 : Int32))) (fun h => by rw [Bd.returns] at h; cases h)
  refine ⟨_, _, A194 _ ?_, hrun, hended, _, _, rfl, ?_, ⟨_, rfl⟩, hW, hsame.mono (by decide) (by decide)⟩
  · exact retN X191 hx (t := .boolean) Bd.returns (by simp) (hb hby at_206) hr
  · show own_Q0 Z x1 x2 x3 x4 x5 h0 n0 _ T191.heap _
    rw [eh191]
    exact ⟨rfl, Nf192⟩
set_option maxRecDepth 65536 in
set_option maxHeartbeats 40000000 in
theorem comes_1 {Post : Tables → Env → Array Value → State → Outcome → State → Prop} (hpost : ∀ tb e args s v u, (limb_1_1.after args s (.returned v) u = true ∧ limb_1_2.after args s (.returned v) u = true ∧ True) → FrameEnd s (.returned v) u (Jvm.fieldLocs frame_1_writes args s ++ Jvm.arrayLocs frame_1_arrays args s ++ Jvm.staticLocs frame_1_statics s) 16 128 → Post tb e args s (.returned v) u) :
    ArmFor flags0 classFile x code maxLocals ret World_1 tables_1 room_1 Calls_1 rest_1 Pre_1 Post := by
  intro l hfl _ _ p e ha hc hk s m args below hf hA hF happ hP
  obtain ⟨hcalls, hrest, hpre⟩ := hP
  obtain ⟨-, -, -, hnamed, -, -, -, hat⟩ := (Spec.applies_iff hf).mp happ
  obtain ⟨hg, hn⟩ := and_e (Cond.before_iff.mp (show (Jvm.Cond.and given_1 narrow_1).before args s = true from hpre))
  obtain ⟨hcount, hg⟩ := and_e hg
  obtain ⟨ga0, hg⟩ := and_e hg
  obtain ⟨ga1, hg⟩ := and_e hg
  obtain ⟨ga2, hg⟩ := and_e hg
  obtain ⟨ga3, hg⟩ := and_e hg
  have ga4 := hg
  obtain ⟨w0, w1, w2, w3, w4, rfl⟩ : ∃ w0 w1 w2 w3 w4 : Value, args = #[w0, w1, w2, w3, w4] := by
    have hs : args.size = 5 := by simpa [Cond.value, given_1] using hcount
    obtain ⟨L⟩ := args
    match L, hs with
    | [w0, w1, w2, w3, w4], _ => exact ⟨w0, w1, w2, w3, w4, rfl⟩
  have hw := fun d (hd : d ∈ tables_1) => atoms_spec (ws := Jvm.Cond.code x code maxLocals ret :: tables_1) hat d (List.mem_cons_of_mem _ hd)
  have hfit : Fit s := fun {y c} hc i hi => by
    obtain ⟨ha, rfl⟩ := Array.getElem?_eq_some_iff.mp hc
    have q := List.all_eq_true.mp ((Array.all_eq_true_iff_forall_mem.mp hF) _ (Array.getElem_mem ha)) i (List.mem_range.mpr hi)
    simpa [Array.getElem?_eq_getElem hi] using q
  obtain ⟨hsets, hown0⟩ := atoms_of _ (rest_1_c_eq ▸ (show rest_1_c.before _ s = true from hrest))
  obtain ⟨i0, ei0⟩ := is_v ga0
  obtain rfl : w0 = (.int i0) := Option.some.inj ei0
  obtain ⟨i1, ei1⟩ := is_v ga1
  obtain rfl : w1 = (.int i1) := Option.some.inj ei1
  obtain ⟨i2, ei2⟩ := is_v ga2
  obtain rfl : w2 = (.int i2) := Option.some.inj ei2
  obtain ⟨i3, ei3⟩ := is_v ga3
  obtain rfl : w3 = (.int i3) := Option.some.inj ei3
  obtain ⟨i4, ei4⟩ := is_v ga4
  obtain rfl : w4 = (.int i4) := Option.some.inj ei4
  have SH := Sta.start (Cond.eq_int (hsets _ (List.mem_of_getElem? (i := 3) rfl)) rfl) (Or.inl (hsets _ (List.mem_of_getElem? (i := 1) rfl)))
  obtain ⟨vc, evc⟩ := arr_v (Cond.before_iff.mp (hsets _ (List.mem_of_getElem? (i := 4) rfl)))
  obtain ⟨cc, AC⟩ := Arr.start evc (Cond.before_iff.mp (hsets _ (List.mem_of_getElem? (i := 4) rfl)))
  have SC := Sta.start evc (Or.inr ⟨(hw _ (List.mem_of_getElem? (i := 25) rfl)), (hsets _ (List.mem_of_getElem? (i := 2) rfl))⟩)
  have hal := (State.Warmed39.refl s).alike
  have hatc := Arr.fin hal AC
  obtain ⟨hl31, hl256⟩ := own_len evc hatc (Cond.eq_int (hsets _ (List.mem_of_getElem? (i := 6) rfl)) rfl)
  have sz : cc.slots.size = 256 := by
    have q := congrArg Int32.toInt hl256
    rw [len_toInt hl31, show (256 : Int32).toInt = 256 from rfl] at q
    omega
  have hel : ∀ j : Int32, ¬ (j < 0 ∨ cc.slots.size ≤ j.toNatClampNeg) → ∃ r : Addr, cc.slots[j.toNatClampNeg]? = some (.ref r) ∧ Exa s s.heap r "java/lang/Integer" := by
    intro j hj
    have hj0 : ¬ j < 0 := fun q => hj (Or.inl q)
    have hs2 : j.toNatClampNeg < cc.slots.size := Nat.lt_of_not_le fun y => hj (Or.inr y)
    have h1 := (and_e (Cond.all_elim evc hatc (Cond.before_iff.mp (hsets _ (List.mem_of_getElem? (i := 7) rfl))) _ hs2)).1
    obtain ⟨r, er⟩ := exa_v h1
    exact ⟨r, (elem_f (a := Term.index 0) (by exact evc) (idx_at hj0) hatc hj0).symm.trans er, exa_at er h1⟩
  obtain ⟨n, o, h1, h2, h3, _, L, rfl, ⟨rfl, N⟩, hq⟩ := own_law l s _ hw tables_1 i0 i1 i2 i3 i4 vc cc s.heap s.heap.size (Nat.le_refl _) SH SC AC sz hel (Old.start s) p e ha hc hk s m _ below hf ((Spec.applies_iff_loose hf).mp happ).1 ⟨rfl, State.Warmed39.refl s, rfl⟩ trivial
  refine ⟨n, _, h1, h2, h3, hpost _ _ _ _ _ _ ⟨Cond.after_iff.mpr rfl, Cond.after_iff.mpr (eq_i res_at (Term.int_eval (1)) rfl), trivial⟩ ⟨hq.1, hq.2.1, (hq.2.2.sift fun y hy => Or.inr (N y hy)).mono (by decide) (by decide)⟩⟩
theorem main_1_1 : Claimed_1_1 := comes_1 fun _ _ _ _ _ _ h hF => ⟨h.1, hF⟩
theorem main_1_2 : Claimed_1_2 := comes_1 fun _ _ _ _ _ _ h hF => ⟨h.2.1, hF⟩
end Jvm.Pilot.@@N@@
namespace Jvm.Pilot.@@N@@
open Jvm Jvm.ClassFile Sem Op Lib Jvm.Free Jvm.Stand Jvm.Pilot.@@N@@.Jvm.D
/-! MADE BY PROGRAM (witnessworld.py) out of the Statement's table words and the real class files: 17 classes; the members and pool entries that the words name. The judged class is class 1, her method 1. -/
namespace start1
open Jvm.ClassFile
def u (s : String) : CpInfo := .utf8 (stringToUtf16 s)
/-- a pool by its gaps: so many unusable entries, then the entry; so many at the end -/
def gap : Nat → List CpInfo → List CpInfo
  | 0, r => r
  | n + 1, r => .unusable :: gap n r
def poolList (es : List (Nat × CpInfo)) (last : Nat) : List CpInfo := es.foldr (fun e r => gap e.1 (e.2 :: r)) (gap last [])
def pool (es : List (Nat × CpInfo)) (last : Nat) : Array CpInfo := ⟨poolList es last⟩
def fileOf (pool : Array CpInfo) (this : Nat) (attrs : Array Attribute := #[]) (ms : Array MethodInfo := #[]) (fl : Nat := 33) (sup : Nat := 0) (ifs : Array Nat := #[]) (fds : Array FieldInfo := #[]) : ClassFile where
  minorVersion := 0
  majorVersion := 65
  constantPool := pool
  accessFlags := fl
  thisClass := this
  superClass := sup
  interfaces := ifs
  fields := fds
  methods := ms
  attributes := attrs
def plain (name : String) (sup : Option ClassId) : Class where
  name := name
  kind := .ordinary
  loader := none
  accessFlags := 33
  super := sup
  interfaces := #[]
  cf := none
  fields := #[]
  methods := #[]
  instanceTypes := #[]
  staticTypes := #[]
  resolved := #[]
  callSites := []
  init := .initialized
  statics := none
  mirror := none

def pool0 : Array CpInfo := pool [(5, u "<init>"), (0, u "()V"), (1, .class_ 10), (1, u "java/lang/Object")] 113

def k0c0 : Code := { maxStack := 0, maxLocals := 1, code := object_method_1_code, exceptionTable := #[], attributes := #[] }
def k0m0 : Method := { name := "<init>", desc := "()V", sig := { parameters := [], returnType := none }, accessFlags := 1, code := some k0c0 }
/-- java/lang/Object -/
def k0 : Class := { plain "java/lang/Object" none with
  accessFlags := 33
  interfaces := #[]
  cf := some (fileOf pool0 8 #[] #[{ accessFlags := 1, nameIndex := 5, descriptorIndex := 6, attributes := #[] }] 33 0 #[] #[])
  fields := #[]
  methods := #[k0m0]
  instanceTypes := #[]
  staticTypes := #[]
  resolved := Array.replicate 124 none
  statics := none }

def pool1 : Array CpInfo := pool [(2, .class_ 4), (1, u "java/lang/Object"), (0, u "<init>"), (0, u "()V"), (0, .class_ 8), (0, u "com/example/halflight/halflight/Move"), (0, .methodref 7 10), (0, .nameAndType 5 11), (0, u "(IIZ)V"), (0, .methodref 13 14), (0, .class_ 15), (0, .nameAndType 16 17), (0, u "java/lang/Integer"), (0, u "valueOf"), (0, u "(I)Ljava/lang/Integer;"), (0, .methodref 7 19), (0, .nameAndType 20 21), (0, u "equals"), (0, u "(Ljava/lang/Object;)Z"), (0, .class_ 23), (0, u "com/example/halflight/halflight/MoveEqualsPinLaw"), (2, u "law"), (0, u "(IIIII)Z")] 3

def k1m0 : Method := { name := "<init>", desc := "()V", sig := { parameters := [], returnType := none }, accessFlags := 1, code := none }
def k1c1 : Code := { maxStack := 6, maxLocals := 19, code := code, exceptionTable := #[], attributes := #[] }
def k1m1 : Method := { name := "law", desc := "(IIIII)Z", sig := { parameters := [.int, .int, .int, .int, .int], returnType := some .boolean }, accessFlags := 9, code := some k1c1 }
/-- com/example/halflight/halflight/MoveEqualsPinLaw -/
def k1 : Class := { plain "com/example/halflight/halflight/MoveEqualsPinLaw" (some 0) with
  accessFlags := 49
  interfaces := #[]
  cf := some (fileOf pool1 22 #[] #[{ accessFlags := 1, nameIndex := 5, descriptorIndex := 6, attributes := #[] }, { accessFlags := 9, nameIndex := 26, descriptorIndex := 27, attributes := #[] }] 49 2 #[] #[])
  fields := #[]
  methods := #[k1m0, k1m1]
  instanceTypes := #[]
  staticTypes := #[]
  resolved := Array.replicate 31 none
  statics := none }

def pool2 : Array CpInfo := pool [(1, .methodref 2 3), (0, .class_ 4), (0, .nameAndType 5 6), (0, u "java/lang/Object"), (0, u "<init>"), (0, u "()V"), (0, .class_ 8), (0, u "java/lang/Record")] 13

def k2c0 : Code := { maxStack := 1, maxLocals := 1, code := jdk_30_method_1_code, exceptionTable := #[], attributes := #[] }
def k2m0 : Method := { name := "<init>", desc := "()V", sig := { parameters := [], returnType := none }, accessFlags := 4, code := some k2c0 }
/-- java/lang/Record -/
def k2 : Class := { plain "java/lang/Record" (some 0) with
  accessFlags := 1057
  interfaces := #[]
  cf := some (fileOf pool2 7 #[] #[{ accessFlags := 4, nameIndex := 5, descriptorIndex := 6, attributes := #[] }] 1057 2 #[] #[])
  fields := #[]
  methods := #[k2m0]
  instanceTypes := #[]
  staticTypes := #[]
  resolved := Array.replicate 22 none
  statics := none }

def pool3 : Array CpInfo := pool [(1, .methodref 2 3), (0, .class_ 4), (0, .nameAndType 5 6), (0, u "java/lang/Record"), (0, u "<init>"), (0, u "()V"), (0, .fieldref 8 9), (0, .class_ 10), (0, .nameAndType 11 12), (0, u "com/example/halflight/halflight/Move"), (0, u "process"), (0, u "I"), (0, .fieldref 8 14), (0, .nameAndType 15 12), (0, u "way"), (0, .fieldref 8 17), (0, .nameAndType 18 19), (0, u "unknown"), (0, u "Z"), (4, u "(IIZ)V"), (3, u "equals"), (0, u "(Ljava/lang/Object;)Z")] 27

def k3c0 : Code := { maxStack := 2, maxLocals := 4, code := prog_34_method_1_code, exceptionTable := #[], attributes := #[] }
def k3m0 : Method := { name := "<init>", desc := "(IIZ)V", sig := { parameters := [.int, .int, .boolean], returnType := none }, accessFlags := 0, code := some k3c0 }
def k3c1 : Code := { maxStack := 2, maxLocals := 3, code := prog_34_method_2_code, exceptionTable := #[], attributes := #[] }
def k3m1 : Method := { name := "equals", desc := "(Ljava/lang/Object;)Z", sig := { parameters := [(.object "java/lang/Object")], returnType := some .boolean }, accessFlags := 1, code := some k3c1 }
/-- com/example/halflight/halflight/Move -/
def k3 : Class := { plain "com/example/halflight/halflight/Move" (some 2) with
  accessFlags := 48
  interfaces := #[]
  cf := some (fileOf pool3 8 #[] #[{ accessFlags := 0, nameIndex := 5, descriptorIndex := 24, attributes := #[] }, { accessFlags := 1, nameIndex := 28, descriptorIndex := 29, attributes := #[] }] 48 2 #[] #[{ accessFlags := 18, nameIndex := 11, descriptorIndex := 12, attributes := #[] }, { accessFlags := 18, nameIndex := 15, descriptorIndex := 12, attributes := #[] }, { accessFlags := 18, nameIndex := 18, descriptorIndex := 19, attributes := #[] }])
  fields := #[{ name := "process", type := .int, accessFlags := 18, slot := 0, constantValue := 0 }, { name := "way", type := .int, accessFlags := 18, slot := 1, constantValue := 0 }, { name := "unknown", type := .boolean, accessFlags := 18, slot := 2, constantValue := 0 }]
  methods := #[k3m0, k3m1]
  instanceTypes := #[.int, .int, .boolean]
  staticTypes := #[]
  resolved := Array.replicate 57 none
  statics := none }

def pool4 : Array CpInfo := pool [(1, .class_ 2), (0, u "java/io/Serializable"), (0, .class_ 4), (0, u "java/lang/Object")] 2

/-- java/io/Serializable -/
def k4 : Class := { plain "java/io/Serializable" (some 0) with
  accessFlags := 1537
  interfaces := #[]
  cf := some (fileOf pool4 1 #[] #[] 1537 3 #[] #[])
  fields := #[]
  methods := #[]
  instanceTypes := #[]
  staticTypes := #[]
  resolved := Array.replicate 7 none
  statics := none }

def pool5 : Array CpInfo := pool [(1, .methodref 2 3), (0, .class_ 4), (0, .nameAndType 5 6), (0, u "java/lang/Object"), (0, u "<init>"), (0, u "()V"), (1, .class_ 10), (1, u "java/lang/Number"), (2, .class_ 14), (0, u "java/io/Serializable"), (0, u "serialVersionUID"), (0, u "J")] 20

def k5c0 : Code := { maxStack := 1, maxLocals := 1, code := jdk_18_method_1_code, exceptionTable := #[], attributes := #[] }
def k5m0 : Method := { name := "<init>", desc := "()V", sig := { parameters := [], returnType := none }, accessFlags := 1, code := some k5c0 }
/-- java/lang/Number -/
def k5 : Class := { plain "java/lang/Number" (some 0) with
  accessFlags := 1057
  interfaces := #[4]
  cf := some (fileOf pool5 8 #[] #[{ accessFlags := 1, nameIndex := 5, descriptorIndex := 6, attributes := #[] }] 1057 2 #[13] #[{ accessFlags := 26, nameIndex := 15, descriptorIndex := 16, attributes := #[] }])
  fields := #[{ name := "serialVersionUID", type := .long, accessFlags := 26, slot := 0, constantValue := 0 }]
  methods := #[k5m0]
  instanceTypes := #[]
  staticTypes := #[.long]
  resolved := Array.replicate 37 none
  statics := none }

def pool6 : Array CpInfo := pool [(1, .class_ 2), (0, u "java/lang/Comparable"), (0, .class_ 4), (0, u "java/lang/Object")] 7

/-- java/lang/Comparable -/
def k6 : Class := { plain "java/lang/Comparable" (some 0) with
  accessFlags := 1537
  interfaces := #[]
  cf := some (fileOf pool6 1 #[] #[] 1537 3 #[] #[])
  fields := #[]
  methods := #[]
  instanceTypes := #[]
  staticTypes := #[]
  resolved := Array.replicate 12 none
  statics := none }

def pool7 : Array CpInfo := pool [(1, .class_ 2), (0, u "java/lang/constant/Constable"), (0, .class_ 4), (0, u "java/lang/Object")] 6

/-- java/lang/constant/Constable -/
def k7 : Class := { plain "java/lang/constant/Constable" (some 0) with
  accessFlags := 1537
  interfaces := #[]
  cf := some (fileOf pool7 1 #[] #[] 1537 3 #[] #[])
  fields := #[]
  methods := #[]
  instanceTypes := #[]
  staticTypes := #[]
  resolved := Array.replicate 11 none
  statics := none }

def pool8 : Array CpInfo := pool [(1, .class_ 2), (0, u "java/lang/constant/ConstantDesc"), (0, .class_ 4), (0, u "java/lang/Object")] 32

/-- java/lang/constant/ConstantDesc -/
def k8 : Class := { plain "java/lang/constant/ConstantDesc" (some 0) with
  accessFlags := 1537
  interfaces := #[]
  cf := some (fileOf pool8 1 #[] #[] 1537 3 #[] #[])
  fields := #[]
  methods := #[]
  instanceTypes := #[]
  staticTypes := #[]
  resolved := Array.replicate 37 none
  statics := none }

def pool9 : Array CpInfo := pool [(1, .class_ 2), (0, u "java/lang/Integer"), (16, u "digits"), (0, u "[C"), (46, u "<init>"), (17, u "DigitOnes"), (0, u "[B"), (2, u "DigitTens"), (10, .nameAndType 67 101), (0, u "()V"), (85, u "valueOf"), (0, u "(I)Ljava/lang/Integer;"), (0, .class_ 190), (0, u "java/lang/Integer$IntegerCache"), (0, .fieldref 189 192), (0, .nameAndType 193 194), (0, u "high"), (0, u "I"), (0, .fieldref 189 196), (0, .nameAndType 197 198), (0, u "cache"), (0, u "[Ljava/lang/Integer;"), (0, .methodref 1 200), (0, .nameAndType 67 201), (0, u "(I)V"), (0, .methodref 203 100), (0, .class_ 204), (0, u "java/lang/Number"), (0, .fieldref 1 206), (0, .nameAndType 207 194), (0, u "value"), (94, u "TYPE"), (0, u "Ljava/lang/Class;"), (0, .class_ 305), (0, u "java/lang/Comparable"), (0, .class_ 307), (0, u "java/lang/constant/Constable"), (0, .class_ 309), (0, u "java/lang/constant/ConstantDesc"), (0, u "MIN_VALUE"), (1, u "MAX_VALUE"), (3, u "SIZE"), (1, u "BYTES"), (1, u "serialVersionUID"), (0, u "J")] 131

def k9c0 : Code := { maxStack := 3, maxLocals := 1, code := jdk_33_method_22_code, exceptionTable := #[], attributes := #[] }
def k9m0 : Method := { name := "valueOf", desc := "(I)Ljava/lang/Integer;", sig := { parameters := [.int], returnType := some (.object "java/lang/Integer") }, accessFlags := 9, code := some k9c0 }
def k9c1 : Code := { maxStack := 2, maxLocals := 2, code := jdk_33_method_23_code, exceptionTable := #[], attributes := #[] }
def k9m1 : Method := { name := "<init>", desc := "(I)V", sig := { parameters := [.int], returnType := none }, accessFlags := 1, code := some k9c1 }
/-- java/lang/Integer -/
def k9 : Class := { plain "java/lang/Integer" (some 5) with
  accessFlags := 49
  interfaces := #[6, 7, 8]
  cf := some (fileOf pool9 1 #[.nestMembers #[189]] #[{ accessFlags := 9, nameIndex := 187, descriptorIndex := 188, attributes := #[] }, { accessFlags := 1, nameIndex := 67, descriptorIndex := 201, attributes := #[] }] 49 203 #[304, 306, 308] #[{ accessFlags := 25, nameIndex := 310, descriptorIndex := 194, attributes := #[] }, { accessFlags := 25, nameIndex := 312, descriptorIndex := 194, attributes := #[] }, { accessFlags := 25, nameIndex := 302, descriptorIndex := 303, attributes := #[] }, { accessFlags := 24, nameIndex := 19, descriptorIndex := 20, attributes := #[] }, { accessFlags := 24, nameIndex := 89, descriptorIndex := 86, attributes := #[] }, { accessFlags := 24, nameIndex := 85, descriptorIndex := 86, attributes := #[] }, { accessFlags := 18, nameIndex := 207, descriptorIndex := 194, attributes := #[] }, { accessFlags := 25, nameIndex := 316, descriptorIndex := 194, attributes := #[] }, { accessFlags := 25, nameIndex := 318, descriptorIndex := 194, attributes := #[] }, { accessFlags := 26, nameIndex := 320, descriptorIndex := 321, attributes := #[] }])
  fields := #[{ name := "MIN_VALUE", type := .int, accessFlags := 25, slot := 0, constantValue := 0 }, { name := "MAX_VALUE", type := .int, accessFlags := 25, slot := 1, constantValue := 0 }, { name := "TYPE", type := (.object "java/lang/Class"), accessFlags := 25, slot := 2, constantValue := 0 }, { name := "digits", type := (.array .char), accessFlags := 24, slot := 3, constantValue := 0 }, { name := "DigitTens", type := (.array .byte), accessFlags := 24, slot := 4, constantValue := 0 }, { name := "DigitOnes", type := (.array .byte), accessFlags := 24, slot := 5, constantValue := 0 }, { name := "value", type := .int, accessFlags := 18, slot := 0, constantValue := 0 }, { name := "SIZE", type := .int, accessFlags := 25, slot := 6, constantValue := 0 }, { name := "BYTES", type := .int, accessFlags := 25, slot := 7, constantValue := 0 }, { name := "serialVersionUID", type := .long, accessFlags := 26, slot := 8, constantValue := 0 }]
  methods := #[k9m0, k9m1]
  instanceTypes := #[.int]
  staticTypes := #[.int, .int, (.object "java/lang/Class"), (.array .char), (.array .byte), (.array .byte), .int, .int, .long]
  resolved := Array.replicate 453 none
  statics := none }

def pool10 : Array CpInfo := pool [(2, .class_ 4), (1, u "java/lang/Object"), (0, u "<init>"), (0, u "()V"), (0, .class_ 8), (0, u "java/lang/Integer"), (7, .class_ 18), (1, u "java/lang/Integer$IntegerCache"), (0, u "$assertionsDisabled"), (0, u "Z"), (26, u "high"), (0, u "I"), (8, u "archivedCache"), (0, u "[Ljava/lang/Integer;"), (12, u "cache"), (0, u "low")] 27

def k10m0 : Method := { name := "<init>", desc := "()V", sig := { parameters := [], returnType := none }, accessFlags := 2, code := none }
/-- java/lang/Integer$IntegerCache -/
def k10 : Class := { plain "java/lang/Integer$IntegerCache" (some 0) with
  accessFlags := 48
  interfaces := #[]
  cf := some (fileOf pool10 16 #[.nestHost 7] #[{ accessFlags := 2, nameIndex := 5, descriptorIndex := 6, attributes := #[] }] 48 2 #[] #[{ accessFlags := 24, nameIndex := 72, descriptorIndex := 48, attributes := #[] }, { accessFlags := 24, nameIndex := 47, descriptorIndex := 48, attributes := #[] }, { accessFlags := 24, nameIndex := 71, descriptorIndex := 58, attributes := #[] }, { accessFlags := 8, nameIndex := 57, descriptorIndex := 58, attributes := #[] }, { accessFlags := 4120, nameIndex := 19, descriptorIndex := 20, attributes := #[] }])
  fields := #[{ name := "low", type := .int, accessFlags := 24, slot := 0, constantValue := 0 }, { name := "high", type := .int, accessFlags := 24, slot := 1, constantValue := 0 }, { name := "cache", type := (.array (.object "java/lang/Integer")), accessFlags := 24, slot := 2, constantValue := 0 }, { name := "archivedCache", type := (.array (.object "java/lang/Integer")), accessFlags := 8, slot := 3, constantValue := 0 }, { name := "$assertionsDisabled", type := .boolean, accessFlags := 4120, slot := 4, constantValue := 0 }]
  methods := #[k10m0]
  instanceTypes := #[]
  staticTypes := #[.int, .int, (.array (.object "java/lang/Integer")), (.array (.object "java/lang/Integer")), .boolean]
  resolved := Array.replicate 100 none
  statics := some 0 }

def pool11 : Array CpInfo := pool [(1, u "java/lang/Cloneable"), (0, .class_ 1), (0, u "java/lang/Object"), (0, .class_ 3)] 3

/-- java/lang/Cloneable -/
def k11 : Class := { plain "java/lang/Cloneable" (some 0) with
  accessFlags := 1537
  interfaces := #[]
  cf := some (fileOf pool11 2 #[] #[] 1537 4 #[] #[])
  fields := #[]
  methods := #[]
  instanceTypes := #[]
  staticTypes := #[]
  resolved := Array.replicate 8 none
  statics := none }

/-- the primitive byte -/
def k12 : Class := { plain "byte" none with kind := .primitive 'B', accessFlags := 0x411 }
/-- [B -/
def k13 : Class := { plain "[B" (some 0) with kind := .array 12 .byte, interfaces := #[11, 4], accessFlags := 1041 }

/-- the primitive int -/
def k14 : Class := { plain "int" none with kind := .primitive 'I', accessFlags := 0x411 }
/-- [I -/
def k15 : Class := { plain "[I" (some 0) with kind := .array 14 .int, interfaces := #[11, 4], accessFlags := 1041 }

/-- [Ljava/lang/Integer; -/
def k16 : Class := { plain "[Ljava/lang/Integer;" (some 0) with kind := .array 9 (.object "java/lang/Integer"), interfaces := #[11, 4], accessFlags := 1041 }

def heap : Heap := #[{ cls := 10, slots := #[.int 0, .int 127, .ref 1, .null, .int 0], vm := .statics 10 },
  { cls := 16, slots := #[.ref 2, .ref 3, .ref 4, .ref 5, .ref 6, .ref 7, .ref 8, .ref 9, .ref 10, .ref 11, .ref 12, .ref 13, .ref 14, .ref 15, .ref 16, .ref 17, .ref 18, .ref 19, .ref 20, .ref 21, .ref 22, .ref 23, .ref 24, .ref 25, .ref 26, .ref 27, .ref 28, .ref 29, .ref 30, .ref 31, .ref 32, .ref 33, .ref 34, .ref 35, .ref 36, .ref 37, .ref 38, .ref 39, .ref 40, .ref 41, .ref 42, .ref 43, .ref 44, .ref 45, .ref 46, .ref 47, .ref 48, .ref 49, .ref 50, .ref 51, .ref 52, .ref 53, .ref 54, .ref 55, .ref 56, .ref 57, .ref 58, .ref 59, .ref 60, .ref 61, .ref 62, .ref 63, .ref 64, .ref 65, .ref 66, .ref 67, .ref 68, .ref 69, .ref 70, .ref 71, .ref 72, .ref 73, .ref 74, .ref 75, .ref 76, .ref 77, .ref 78, .ref 79, .ref 80, .ref 81, .ref 82, .ref 83, .ref 84, .ref 85, .ref 86, .ref 87, .ref 88, .ref 89, .ref 90, .ref 91, .ref 92, .ref 93, .ref 94, .ref 95, .ref 96, .ref 97, .ref 98, .ref 99, .ref 100, .ref 101, .ref 102, .ref 103, .ref 104, .ref 105, .ref 106, .ref 107, .ref 108, .ref 109, .ref 110, .ref 111, .ref 112, .ref 113, .ref 114, .ref 115, .ref 116, .ref 117, .ref 118, .ref 119, .ref 120, .ref 121, .ref 122, .ref 123, .ref 124, .ref 125, .ref 126, .ref 127, .ref 128, .ref 129, .ref 130, .ref 131, .ref 132, .ref 133, .ref 134, .ref 135, .ref 136, .ref 137, .ref 138, .ref 139, .ref 140, .ref 141, .ref 142, .ref 143, .ref 144, .ref 145, .ref 146, .ref 147, .ref 148, .ref 149, .ref 150, .ref 151, .ref 152, .ref 153, .ref 154, .ref 155, .ref 156, .ref 157, .ref 158, .ref 159, .ref 160, .ref 161, .ref 162, .ref 163, .ref 164, .ref 165, .ref 166, .ref 167, .ref 168, .ref 169, .ref 170, .ref 171, .ref 172, .ref 173, .ref 174, .ref 175, .ref 176, .ref 177, .ref 178, .ref 179, .ref 180, .ref 181, .ref 182, .ref 183, .ref 184, .ref 185, .ref 186, .ref 187, .ref 188, .ref 189, .ref 190, .ref 191, .ref 192, .ref 193, .ref 194, .ref 195, .ref 196, .ref 197, .ref 198, .ref 199, .ref 200, .ref 201, .ref 202, .ref 203, .ref 204, .ref 205, .ref 206, .ref 207, .ref 208, .ref 209, .ref 210, .ref 211, .ref 212, .ref 213, .ref 214, .ref 215, .ref 216, .ref 217, .ref 218, .ref 219, .ref 220, .ref 221, .ref 222, .ref 223, .ref 224, .ref 225, .ref 226, .ref 227, .ref 228, .ref 229, .ref 230, .ref 231, .ref 232, .ref 233, .ref 234, .ref 235, .ref 236, .ref 237, .ref 238, .ref 239, .ref 240, .ref 241, .ref 242, .ref 243, .ref 244, .ref 245, .ref 246, .ref 247, .ref 248, .ref 249, .ref 250, .ref 251, .ref 252, .ref 253, .ref 254, .ref 255, .ref 256, .ref 257], vm := .none },
  { cls := 9, slots := #[.int (-128)], vm := .none },
  { cls := 9, slots := #[.int (-127)], vm := .none },
  { cls := 9, slots := #[.int (-126)], vm := .none },
  { cls := 9, slots := #[.int (-125)], vm := .none },
  { cls := 9, slots := #[.int (-124)], vm := .none },
  { cls := 9, slots := #[.int (-123)], vm := .none },
  { cls := 9, slots := #[.int (-122)], vm := .none },
  { cls := 9, slots := #[.int (-121)], vm := .none },
  { cls := 9, slots := #[.int (-120)], vm := .none },
  { cls := 9, slots := #[.int (-119)], vm := .none },
  { cls := 9, slots := #[.int (-118)], vm := .none },
  { cls := 9, slots := #[.int (-117)], vm := .none },
  { cls := 9, slots := #[.int (-116)], vm := .none },
  { cls := 9, slots := #[.int (-115)], vm := .none },
  { cls := 9, slots := #[.int (-114)], vm := .none },
  { cls := 9, slots := #[.int (-113)], vm := .none },
  { cls := 9, slots := #[.int (-112)], vm := .none },
  { cls := 9, slots := #[.int (-111)], vm := .none },
  { cls := 9, slots := #[.int (-110)], vm := .none },
  { cls := 9, slots := #[.int (-109)], vm := .none },
  { cls := 9, slots := #[.int (-108)], vm := .none },
  { cls := 9, slots := #[.int (-107)], vm := .none },
  { cls := 9, slots := #[.int (-106)], vm := .none },
  { cls := 9, slots := #[.int (-105)], vm := .none },
  { cls := 9, slots := #[.int (-104)], vm := .none },
  { cls := 9, slots := #[.int (-103)], vm := .none },
  { cls := 9, slots := #[.int (-102)], vm := .none },
  { cls := 9, slots := #[.int (-101)], vm := .none },
  { cls := 9, slots := #[.int (-100)], vm := .none },
  { cls := 9, slots := #[.int (-99)], vm := .none },
  { cls := 9, slots := #[.int (-98)], vm := .none },
  { cls := 9, slots := #[.int (-97)], vm := .none },
  { cls := 9, slots := #[.int (-96)], vm := .none },
  { cls := 9, slots := #[.int (-95)], vm := .none },
  { cls := 9, slots := #[.int (-94)], vm := .none },
  { cls := 9, slots := #[.int (-93)], vm := .none },
  { cls := 9, slots := #[.int (-92)], vm := .none },
  { cls := 9, slots := #[.int (-91)], vm := .none },
  { cls := 9, slots := #[.int (-90)], vm := .none },
  { cls := 9, slots := #[.int (-89)], vm := .none },
  { cls := 9, slots := #[.int (-88)], vm := .none },
  { cls := 9, slots := #[.int (-87)], vm := .none },
  { cls := 9, slots := #[.int (-86)], vm := .none },
  { cls := 9, slots := #[.int (-85)], vm := .none },
  { cls := 9, slots := #[.int (-84)], vm := .none },
  { cls := 9, slots := #[.int (-83)], vm := .none },
  { cls := 9, slots := #[.int (-82)], vm := .none },
  { cls := 9, slots := #[.int (-81)], vm := .none },
  { cls := 9, slots := #[.int (-80)], vm := .none },
  { cls := 9, slots := #[.int (-79)], vm := .none },
  { cls := 9, slots := #[.int (-78)], vm := .none },
  { cls := 9, slots := #[.int (-77)], vm := .none },
  { cls := 9, slots := #[.int (-76)], vm := .none },
  { cls := 9, slots := #[.int (-75)], vm := .none },
  { cls := 9, slots := #[.int (-74)], vm := .none },
  { cls := 9, slots := #[.int (-73)], vm := .none },
  { cls := 9, slots := #[.int (-72)], vm := .none },
  { cls := 9, slots := #[.int (-71)], vm := .none },
  { cls := 9, slots := #[.int (-70)], vm := .none },
  { cls := 9, slots := #[.int (-69)], vm := .none },
  { cls := 9, slots := #[.int (-68)], vm := .none },
  { cls := 9, slots := #[.int (-67)], vm := .none },
  { cls := 9, slots := #[.int (-66)], vm := .none },
  { cls := 9, slots := #[.int (-65)], vm := .none },
  { cls := 9, slots := #[.int (-64)], vm := .none },
  { cls := 9, slots := #[.int (-63)], vm := .none },
  { cls := 9, slots := #[.int (-62)], vm := .none },
  { cls := 9, slots := #[.int (-61)], vm := .none },
  { cls := 9, slots := #[.int (-60)], vm := .none },
  { cls := 9, slots := #[.int (-59)], vm := .none },
  { cls := 9, slots := #[.int (-58)], vm := .none },
  { cls := 9, slots := #[.int (-57)], vm := .none },
  { cls := 9, slots := #[.int (-56)], vm := .none },
  { cls := 9, slots := #[.int (-55)], vm := .none },
  { cls := 9, slots := #[.int (-54)], vm := .none },
  { cls := 9, slots := #[.int (-53)], vm := .none },
  { cls := 9, slots := #[.int (-52)], vm := .none },
  { cls := 9, slots := #[.int (-51)], vm := .none },
  { cls := 9, slots := #[.int (-50)], vm := .none },
  { cls := 9, slots := #[.int (-49)], vm := .none },
  { cls := 9, slots := #[.int (-48)], vm := .none },
  { cls := 9, slots := #[.int (-47)], vm := .none },
  { cls := 9, slots := #[.int (-46)], vm := .none },
  { cls := 9, slots := #[.int (-45)], vm := .none },
  { cls := 9, slots := #[.int (-44)], vm := .none },
  { cls := 9, slots := #[.int (-43)], vm := .none },
  { cls := 9, slots := #[.int (-42)], vm := .none },
  { cls := 9, slots := #[.int (-41)], vm := .none },
  { cls := 9, slots := #[.int (-40)], vm := .none },
  { cls := 9, slots := #[.int (-39)], vm := .none },
  { cls := 9, slots := #[.int (-38)], vm := .none },
  { cls := 9, slots := #[.int (-37)], vm := .none },
  { cls := 9, slots := #[.int (-36)], vm := .none },
  { cls := 9, slots := #[.int (-35)], vm := .none },
  { cls := 9, slots := #[.int (-34)], vm := .none },
  { cls := 9, slots := #[.int (-33)], vm := .none },
  { cls := 9, slots := #[.int (-32)], vm := .none },
  { cls := 9, slots := #[.int (-31)], vm := .none },
  { cls := 9, slots := #[.int (-30)], vm := .none },
  { cls := 9, slots := #[.int (-29)], vm := .none },
  { cls := 9, slots := #[.int (-28)], vm := .none },
  { cls := 9, slots := #[.int (-27)], vm := .none },
  { cls := 9, slots := #[.int (-26)], vm := .none },
  { cls := 9, slots := #[.int (-25)], vm := .none },
  { cls := 9, slots := #[.int (-24)], vm := .none },
  { cls := 9, slots := #[.int (-23)], vm := .none },
  { cls := 9, slots := #[.int (-22)], vm := .none },
  { cls := 9, slots := #[.int (-21)], vm := .none },
  { cls := 9, slots := #[.int (-20)], vm := .none },
  { cls := 9, slots := #[.int (-19)], vm := .none },
  { cls := 9, slots := #[.int (-18)], vm := .none },
  { cls := 9, slots := #[.int (-17)], vm := .none },
  { cls := 9, slots := #[.int (-16)], vm := .none },
  { cls := 9, slots := #[.int (-15)], vm := .none },
  { cls := 9, slots := #[.int (-14)], vm := .none },
  { cls := 9, slots := #[.int (-13)], vm := .none },
  { cls := 9, slots := #[.int (-12)], vm := .none },
  { cls := 9, slots := #[.int (-11)], vm := .none },
  { cls := 9, slots := #[.int (-10)], vm := .none },
  { cls := 9, slots := #[.int (-9)], vm := .none },
  { cls := 9, slots := #[.int (-8)], vm := .none },
  { cls := 9, slots := #[.int (-7)], vm := .none },
  { cls := 9, slots := #[.int (-6)], vm := .none },
  { cls := 9, slots := #[.int (-5)], vm := .none },
  { cls := 9, slots := #[.int (-4)], vm := .none },
  { cls := 9, slots := #[.int (-3)], vm := .none },
  { cls := 9, slots := #[.int (-2)], vm := .none },
  { cls := 9, slots := #[.int (-1)], vm := .none },
  { cls := 9, slots := #[.int 0], vm := .none },
  { cls := 9, slots := #[.int 1], vm := .none },
  { cls := 9, slots := #[.int 2], vm := .none },
  { cls := 9, slots := #[.int 3], vm := .none },
  { cls := 9, slots := #[.int 4], vm := .none },
  { cls := 9, slots := #[.int 5], vm := .none },
  { cls := 9, slots := #[.int 6], vm := .none },
  { cls := 9, slots := #[.int 7], vm := .none },
  { cls := 9, slots := #[.int 8], vm := .none },
  { cls := 9, slots := #[.int 9], vm := .none },
  { cls := 9, slots := #[.int 10], vm := .none },
  { cls := 9, slots := #[.int 11], vm := .none },
  { cls := 9, slots := #[.int 12], vm := .none },
  { cls := 9, slots := #[.int 13], vm := .none },
  { cls := 9, slots := #[.int 14], vm := .none },
  { cls := 9, slots := #[.int 15], vm := .none },
  { cls := 9, slots := #[.int 16], vm := .none },
  { cls := 9, slots := #[.int 17], vm := .none },
  { cls := 9, slots := #[.int 18], vm := .none },
  { cls := 9, slots := #[.int 19], vm := .none },
  { cls := 9, slots := #[.int 20], vm := .none },
  { cls := 9, slots := #[.int 21], vm := .none },
  { cls := 9, slots := #[.int 22], vm := .none },
  { cls := 9, slots := #[.int 23], vm := .none },
  { cls := 9, slots := #[.int 24], vm := .none },
  { cls := 9, slots := #[.int 25], vm := .none },
  { cls := 9, slots := #[.int 26], vm := .none },
  { cls := 9, slots := #[.int 27], vm := .none },
  { cls := 9, slots := #[.int 28], vm := .none },
  { cls := 9, slots := #[.int 29], vm := .none },
  { cls := 9, slots := #[.int 30], vm := .none },
  { cls := 9, slots := #[.int 31], vm := .none },
  { cls := 9, slots := #[.int 32], vm := .none },
  { cls := 9, slots := #[.int 33], vm := .none },
  { cls := 9, slots := #[.int 34], vm := .none },
  { cls := 9, slots := #[.int 35], vm := .none },
  { cls := 9, slots := #[.int 36], vm := .none },
  { cls := 9, slots := #[.int 37], vm := .none },
  { cls := 9, slots := #[.int 38], vm := .none },
  { cls := 9, slots := #[.int 39], vm := .none },
  { cls := 9, slots := #[.int 40], vm := .none },
  { cls := 9, slots := #[.int 41], vm := .none },
  { cls := 9, slots := #[.int 42], vm := .none },
  { cls := 9, slots := #[.int 43], vm := .none },
  { cls := 9, slots := #[.int 44], vm := .none },
  { cls := 9, slots := #[.int 45], vm := .none },
  { cls := 9, slots := #[.int 46], vm := .none },
  { cls := 9, slots := #[.int 47], vm := .none },
  { cls := 9, slots := #[.int 48], vm := .none },
  { cls := 9, slots := #[.int 49], vm := .none },
  { cls := 9, slots := #[.int 50], vm := .none },
  { cls := 9, slots := #[.int 51], vm := .none },
  { cls := 9, slots := #[.int 52], vm := .none },
  { cls := 9, slots := #[.int 53], vm := .none },
  { cls := 9, slots := #[.int 54], vm := .none },
  { cls := 9, slots := #[.int 55], vm := .none },
  { cls := 9, slots := #[.int 56], vm := .none },
  { cls := 9, slots := #[.int 57], vm := .none },
  { cls := 9, slots := #[.int 58], vm := .none },
  { cls := 9, slots := #[.int 59], vm := .none },
  { cls := 9, slots := #[.int 60], vm := .none },
  { cls := 9, slots := #[.int 61], vm := .none },
  { cls := 9, slots := #[.int 62], vm := .none },
  { cls := 9, slots := #[.int 63], vm := .none },
  { cls := 9, slots := #[.int 64], vm := .none },
  { cls := 9, slots := #[.int 65], vm := .none },
  { cls := 9, slots := #[.int 66], vm := .none },
  { cls := 9, slots := #[.int 67], vm := .none },
  { cls := 9, slots := #[.int 68], vm := .none },
  { cls := 9, slots := #[.int 69], vm := .none },
  { cls := 9, slots := #[.int 70], vm := .none },
  { cls := 9, slots := #[.int 71], vm := .none },
  { cls := 9, slots := #[.int 72], vm := .none },
  { cls := 9, slots := #[.int 73], vm := .none },
  { cls := 9, slots := #[.int 74], vm := .none },
  { cls := 9, slots := #[.int 75], vm := .none },
  { cls := 9, slots := #[.int 76], vm := .none },
  { cls := 9, slots := #[.int 77], vm := .none },
  { cls := 9, slots := #[.int 78], vm := .none },
  { cls := 9, slots := #[.int 79], vm := .none },
  { cls := 9, slots := #[.int 80], vm := .none },
  { cls := 9, slots := #[.int 81], vm := .none },
  { cls := 9, slots := #[.int 82], vm := .none },
  { cls := 9, slots := #[.int 83], vm := .none },
  { cls := 9, slots := #[.int 84], vm := .none },
  { cls := 9, slots := #[.int 85], vm := .none },
  { cls := 9, slots := #[.int 86], vm := .none },
  { cls := 9, slots := #[.int 87], vm := .none },
  { cls := 9, slots := #[.int 88], vm := .none },
  { cls := 9, slots := #[.int 89], vm := .none },
  { cls := 9, slots := #[.int 90], vm := .none },
  { cls := 9, slots := #[.int 91], vm := .none },
  { cls := 9, slots := #[.int 92], vm := .none },
  { cls := 9, slots := #[.int 93], vm := .none },
  { cls := 9, slots := #[.int 94], vm := .none },
  { cls := 9, slots := #[.int 95], vm := .none },
  { cls := 9, slots := #[.int 96], vm := .none },
  { cls := 9, slots := #[.int 97], vm := .none },
  { cls := 9, slots := #[.int 98], vm := .none },
  { cls := 9, slots := #[.int 99], vm := .none },
  { cls := 9, slots := #[.int 100], vm := .none },
  { cls := 9, slots := #[.int 101], vm := .none },
  { cls := 9, slots := #[.int 102], vm := .none },
  { cls := 9, slots := #[.int 103], vm := .none },
  { cls := 9, slots := #[.int 104], vm := .none },
  { cls := 9, slots := #[.int 105], vm := .none },
  { cls := 9, slots := #[.int 106], vm := .none },
  { cls := 9, slots := #[.int 107], vm := .none },
  { cls := 9, slots := #[.int 108], vm := .none },
  { cls := 9, slots := #[.int 109], vm := .none },
  { cls := 9, slots := #[.int 110], vm := .none },
  { cls := 9, slots := #[.int 111], vm := .none },
  { cls := 9, slots := #[.int 112], vm := .none },
  { cls := 9, slots := #[.int 113], vm := .none },
  { cls := 9, slots := #[.int 114], vm := .none },
  { cls := 9, slots := #[.int 115], vm := .none },
  { cls := 9, slots := #[.int 116], vm := .none },
  { cls := 9, slots := #[.int 117], vm := .none },
  { cls := 9, slots := #[.int 118], vm := .none },
  { cls := 9, slots := #[.int 119], vm := .none },
  { cls := 9, slots := #[.int 120], vm := .none },
  { cls := 9, slots := #[.int 121], vm := .none },
  { cls := 9, slots := #[.int 122], vm := .none },
  { cls := 9, slots := #[.int 123], vm := .none },
  { cls := 9, slots := #[.int 124], vm := .none },
  { cls := 9, slots := #[.int 125], vm := .none },
  { cls := 9, slots := #[.int 126], vm := .none },
  { cls := 9, slots := #[.int 127], vm := .none }]
def classes : Array Class := #[k0, k1, k2, k3, k4, k5, k6, k7, k8, k9, k10, k11, k12, k13, k14, k15, k16]
def interned : List (Array UInt16 × Addr) := []
def slotsUsed : Nat := 517
def theMethod : MethodId := ⟨1, 1⟩
def args0 : Array Value := #[.int 1, .int 2, .int 3, .int 4, .int 5]
def aboutOver (below : List Frame) : State where
  vm := { classes := classes, interned := interned.toArray }
  heap := heap
  slotsUsed := slotsUsed
  threads := #[{ frames := .invoking theMethod args0 :: below }]
def below0 : List Frame := [.native { method := ⟨0, 0⟩, args := #[] }]
def about1 : State := aboutOver below0
def p0 : Program := .bare "" "" ""
def e0 : Env := launch0.env 0 0 0
theorem w_frames : about1.frames = Frame.invoking theMethod args0 :: below0 := rfl
set_option maxRecDepth 65536 in
theorem w_args : argsFit about1.vm theMethod args0 = true := by decide +kernel
set_option maxRecDepth 65536 in
theorem w_heap : heapFits about1 = true := by decide +kernel
set_option maxRecDepth 65536 in
theorem w_runnable : about1.curStatus? = some .runnable := by decide +kernel
set_option maxRecDepth 65536 in
theorem w_alone : about1.alone = true := by decide +kernel
set_option maxRecDepth 65536 in
theorem w_named : about1.methodNamed? x = some theMethod := by decide +kernel
set_option maxRecDepth 65536 in
theorem w_hears : about1.hears theMethod below0 = true := by decide +kernel
set_option maxRecDepth 65536 in
theorem w_ripe : about1.ripe theMethod args0 below0 = true := by decide +kernel
theorem w_running : about1.status = .running := rfl
set_option maxRecDepth 65536 in
theorem w_room : about1.hasRoom e0.platform room_1 = true :=
  launch0.hasRoom_least _ room_1 (by decide +kernel) (by decide +kernel) (by decide +kernel) (by decide +kernel) (by decide +kernel) (by decide +kernel)
theorem allAtoms_all (ts : List Jvm.Cond) (a : Array Jvm.Value) (st : Jvm.State) : (allAtoms ts).before a st = ts.all (fun c => c.before a st) := by
  induction ts with
  | nil => rfl
  | cons c t ih =>
    show (Jvm.Cond.and c (allAtoms t)).before a st = _
    rw [Jvm.Cond.before_and, ih, List.all_cons]
def words1 : List Jvm.Cond := Jvm.Cond.code x code maxLocals ret :: tables_1
/-- a 'code' word, met by the world's own term for the bytes: nothing is compared byte by byte -/
theorem code_word {y : MethodName} {bytes : ByteArray} {mx : Nat} {rt : Option FieldType} {a : Array Value} {s : State} {m : MethodId} {meth : Method} {c : Code} (h1 : s.methodNamed? y = some m) (h2 : s.vm.method? m = some meth) (h3 : meth.code = some c) (h4 : c.code = bytes)
    (h5 : (c.maxLocals == mx && c.exceptionTable.isEmpty && decide (c.maxStack ≤ mostOperands) && decide (meth.sig.returnType = rt) && !meth.locks && decide (parseMethodDescriptor y.desc = some meth.sig)) = true) : (Jvm.Cond.code y bytes mx rt).before a s = true := by
  simp only [Bool.and_eq_true, beq_iff_eq, Bool.not_eq_true', decide_eq_true_eq] at h5
  obtain ⟨⟨⟨⟨⟨g1, g2⟩, g3⟩, g4⟩, g5⟩, g6⟩ := h5
  simp [Cond.before, Cond.holds, Cond.value, h1, h2, h3, h4, g1, g2, g3, g4, g5, g6]
def isCode : Jvm.Cond → Bool
  | .code _ _ _ _ => true
  | _ => false
theorem all_split {L : List Jvm.Cond} {P : Jvm.Cond → Bool} (h1 : L.all (fun c => isCode c || P c) = true) (h2 : ∀ c ∈ L.filter isCode, P c = true) : L.all P = true := by
  refine List.all_eq_true.mpr fun c hc => ?_
  have h := List.all_eq_true.mp h1 c hc
  rcases Bool.eq_false_or_eq_true (isCode c) with hi | hi
  · exact h2 c (List.mem_filter.mpr ⟨hc, hi⟩)
  · simpa [hi] using h
set_option maxRecDepth 65536 in
theorem w_c0 : (Jvm.Cond.code x code maxLocals ret).before args0 about1 = true := code_word (m := ⟨1, 1⟩) (meth := k1m1) (c := k1c1) (by decide +kernel) rfl rfl rfl (by decide +kernel)
set_option maxRecDepth 65536 in
theorem w_c1 : (Jvm.Cond.code ({ cls := "com/example/halflight/halflight/Move", name := "<init>", desc := "(IIZ)V" } : Jvm.MethodName) prog_34_method_1_code (4 : Nat) (Option.none : Option Jvm.ClassFile.FieldType)).before args0 about1 = true := code_word (m := ⟨3, 0⟩) (meth := k3m0) (c := k3c0) (by decide +kernel) rfl rfl rfl (by decide +kernel)
set_option maxRecDepth 65536 in
theorem w_c2 : (Jvm.Cond.code ({ cls := "java/lang/Record", name := "<init>", desc := "()V" } : Jvm.MethodName) jdk_30_method_1_code (1 : Nat) (Option.none : Option Jvm.ClassFile.FieldType)).before args0 about1 = true := code_word (m := ⟨2, 0⟩) (meth := k2m0) (c := k2c0) (by decide +kernel) rfl rfl rfl (by decide +kernel)
set_option maxRecDepth 65536 in
theorem w_c3 : (Jvm.Cond.code ({ cls := "java/lang/Object", name := "<init>", desc := "()V" } : Jvm.MethodName) object_method_1_code (1 : Nat) (Option.none : Option Jvm.ClassFile.FieldType)).before args0 about1 = true := code_word (m := ⟨0, 0⟩) (meth := k0m0) (c := k0c0) (by decide +kernel) rfl rfl rfl (by decide +kernel)
set_option maxRecDepth 65536 in
theorem w_c4 : (Jvm.Cond.code ({ cls := "java/lang/Integer", name := "valueOf", desc := "(I)Ljava/lang/Integer;" } : Jvm.MethodName) jdk_33_method_22_code (1 : Nat) (Option.some (Jvm.ClassFile.FieldType.object "java/lang/Integer"))).before args0 about1 = true := code_word (m := ⟨9, 0⟩) (meth := k9m0) (c := k9c0) (by decide +kernel) rfl rfl rfl (by decide +kernel)
set_option maxRecDepth 65536 in
theorem w_c5 : (Jvm.Cond.code ({ cls := "com/example/halflight/halflight/Move", name := "equals", desc := "(Ljava/lang/Object;)Z" } : Jvm.MethodName) prog_34_method_2_code (3 : Nat) (Option.some Jvm.ClassFile.FieldType.boolean)).before args0 about1 = true := code_word (m := ⟨3, 1⟩) (meth := k3m1) (c := k3c1) (by decide +kernel) rfl rfl rfl (by decide +kernel)
set_option maxRecDepth 65536 in
theorem w_c6 : (Jvm.Cond.code ({ cls := "java/lang/Integer", name := "<init>", desc := "(I)V" } : Jvm.MethodName) jdk_33_method_23_code (2 : Nat) (Option.none : Option Jvm.ClassFile.FieldType)).before args0 about1 = true := code_word (m := ⟨9, 1⟩) (meth := k9m1) (c := k9c1) (by decide +kernel) rfl rfl rfl (by decide +kernel)
set_option maxRecDepth 65536 in
theorem w_c7 : (Jvm.Cond.code ({ cls := "java/lang/Number", name := "<init>", desc := "()V" } : Jvm.MethodName) jdk_18_method_1_code (1 : Nat) (Option.none : Option Jvm.ClassFile.FieldType)).before args0 about1 = true := code_word (m := ⟨5, 0⟩) (meth := k5m0) (c := k5c0) (by decide +kernel) rfl rfl rfl (by decide +kernel)
def codes1 : List Jvm.Cond := [Jvm.Cond.code x code maxLocals ret, Jvm.Cond.code ({ cls := "com/example/halflight/halflight/Move", name := "<init>", desc := "(IIZ)V" } : Jvm.MethodName) prog_34_method_1_code (4 : Nat) (Option.none : Option Jvm.ClassFile.FieldType), Jvm.Cond.code ({ cls := "java/lang/Record", name := "<init>", desc := "()V" } : Jvm.MethodName) jdk_30_method_1_code (1 : Nat) (Option.none : Option Jvm.ClassFile.FieldType), Jvm.Cond.code ({ cls := "java/lang/Object", name := "<init>", desc := "()V" } : Jvm.MethodName) object_method_1_code (1 : Nat) (Option.none : Option Jvm.ClassFile.FieldType), Jvm.Cond.code ({ cls := "java/lang/Integer", name := "valueOf", desc := "(I)Ljava/lang/Integer;" } : Jvm.MethodName) jdk_33_method_22_code (1 : Nat) (Option.some (Jvm.ClassFile.FieldType.object "java/lang/Integer")), Jvm.Cond.code ({ cls := "com/example/halflight/halflight/Move", name := "equals", desc := "(Ljava/lang/Object;)Z" } : Jvm.MethodName) prog_34_method_2_code (3 : Nat) (Option.some Jvm.ClassFile.FieldType.boolean), Jvm.Cond.code ({ cls := "java/lang/Integer", name := "<init>", desc := "(I)V" } : Jvm.MethodName) jdk_33_method_23_code (2 : Nat) (Option.none : Option Jvm.ClassFile.FieldType), Jvm.Cond.code ({ cls := "java/lang/Number", name := "<init>", desc := "()V" } : Jvm.MethodName) jdk_18_method_1_code (1 : Nat) (Option.none : Option Jvm.ClassFile.FieldType)]
set_option maxRecDepth 65536 in
theorem codes_eq : words1.filter isCode = codes1 := rfl
theorem w_codes : ∀ c ∈ words1.filter isCode, c.before args0 about1 = true := by
  rw [codes_eq]
  intro c hc
  simp only [codes1, List.mem_cons, List.not_mem_nil, or_false] at hc
  rcases hc with rfl | rfl | rfl | rfl | rfl | rfl | rfl | rfl
  · exact w_c0
  · exact w_c1
  · exact w_c2
  · exact w_c3
  · exact w_c4
  · exact w_c5
  · exact w_c6
  · exact w_c7
set_option maxRecDepth 65536 in
theorem w_t1 : (words1.take 24).all (fun c => isCode c || c.before args0 about1) = true := by decide +kernel
set_option maxRecDepth 65536 in
theorem w_t2 : ((words1.drop 24).take 24).all (fun c => isCode c || c.before args0 about1) = true := by decide +kernel
set_option maxRecDepth 65536 in
theorem w_t3 : ((words1.drop 24).drop 24).all (fun c => isCode c || c.before args0 about1) = true := by decide +kernel
theorem w_tables : (allAtoms (Jvm.Cond.code x code maxLocals ret :: tables_1)).before args0 about1 = true := by
  rw [allAtoms_all]
  show words1.all (fun c => c.before args0 about1) = true
  refine all_split ?_ w_codes
  rw [← List.take_append_drop 24 words1, List.all_append, w_t1, ← List.take_append_drop 24 (words1.drop 24), List.all_append, w_t2, w_t3]
  rfl
set_option maxRecDepth 65536 in
theorem w_rest : rest_1_c.before args0 about1 = true := by decide +kernel
set_option maxRecDepth 65536 in
theorem w_case : (Jvm.Cond.and given_1 narrow_1).before args0 about1 = true := by decide +kernel
theorem w_applies : (headSpec (Jvm.Cond.code x code maxLocals ret :: tables_1) room_1).applies x e0.platform about1 = true :=
  (Spec.applies_iff w_frames).mpr ⟨w_running, w_runnable, w_alone, w_named, w_hears, w_ripe, w_room, w_tables⟩
theorem atStart : AtStart classFile x code maxLocals ret World_1 tables_1 room_1 Calls_1 rest_1 Pre_1 launch0 p0 e0 about1 theMethod args0 below0 :=
  ⟨lists_1, trivial, launch0.admits_env _ _ _, launch0.least_env, fairChoices_fair.cas, fairChoices_fair.clock, w_frames, w_args, w_heap, w_applies, trivial, w_rest, w_case⟩
end start1
theorem witness_1 : WitnessClaimed_1 := ⟨start1.p0, start1.e0, start1.about1, start1.theMethod, start1.args0, start1.below0, start1.atStart⟩
end Jvm.Pilot.@@N@@
