import JvmDerived
import JvmDerived.Pilot.@@N@@Statement
import JvmDerived.Pilot.@@N@@Code
set_option linter.unusedVariables false
set_option linter.unusedSimpArgs false
namespace Jvm.Pilot.@@N@@
open Jvm Jvm.ClassFile Sem Op Lib Jvm.Free Jvm.Stand Jvm.LawKit Jvm.RoadKit Bundle Jvm.Pilot.@@N@@.Jvm.D
section OwnRet
variable {p : Program} {l : Launch} {e : Env} {R : Room} {s : State} {m : MethodId} {args : Array Value} {below : List Frame} {meth : Method} {c : Code} {T : State} {locs : List Loc} {cells slots : Nat}
theorem own_retN (X : Stand p l e R s m args below meth c T locs cells slots) (hx : p.tables.exec = Jvm.exec) {pc : Nat} {Ls : Array Slot} {z : Int32} {t : FieldType} {rest : List Value} (hret : meth.sig.returnType = some t) (ht : t = .boolean ∨ t = .byte ∨ t = .char ∨ t = .short) (hz : nar t z = z)
    (hd : decode c.code pc = .ok (.ireturn, 1)) {fs : List Frame} (hl : ∀ (f : JFrame) (acts : List Action), f.method = m → f.locked = none → f.entered = [] → (doReturn e (T.setTop f) acts (some (.int z))).1 = T.setFrames fs) :
    Steps p.tables e below (T.setTop (mkF m pc Ls (.int z :: rest))) (T.setFrames fs) := retN X hx hret ht hd (by rw [hz]; exact hl)
theorem own_nb {z : Int32} (h : z = 0 ∨ z = 1) : nar .boolean z = z := by rcases h with rfl | rfl <;> rfl
end OwnRet
theorem own_tab {Z : State} {h : Heap} {a : Addr} {c : Cell} {ty : FieldType} {z : Int32} (A : Arr Z h a c ty) (S : c.slots.size = z.toNatClampNeg) (q : ¬ z < 0) (H : ∀ j : Int32, ¬ (j < 0 ∨ c.slots.size ≤ j.toNatClampNeg) → ∃ x : Int32, c.slots[j.toNatClampNeg]? = some (.int x)) : Tab Z h a c ty z :=
  ⟨A, S, q, fun j hj => by obtain ⟨x, hx⟩ := H j hj; rw [hx, atv_of hx]⟩
theorem own_tabSet {Z : State} {h h' : Heap} {a : Addr} {c : Cell} {ty : FieldType} {z j v : Int32} (F : Tab Z h a c ty z) (hj : ¬ (j < 0 ∨ c.slots.size ≤ j.toNatClampNeg)) (W : Wr h h' a j.toNatClampNeg (.int v)) : Tab Z h' a (c.setSlot j.toNatClampNeg (.int v)) ty z := by
  refine own_tab (F.1.same W) ((sz_set _ _ _).trans F.2.1) F.2.2.1 fun i hi => ?_
  rw [sz_set] at hi
  by_cases q : i = j
  · exact ⟨v, get_hit hj q⟩
  · exact ⟨atv c i, (get_miss (fun y => hj (Or.inl y)) (fun y => hi (Or.inl y)) q).trans (F.2.2.2 i hi)⟩
theorem own_tabNew {Z : State} {h : Heap} {a : Addr} {k : ClassId} (A : Arr Z h a (newA k .byte 8) .byte) : Tab Z h a (newA k .byte 8) .byte 8 := by
  refine own_tab A (sz_new _ _ _) (by decide) fun i hi => ⟨0, ?_⟩
  rw [sz_new] at hi
  exact get_new hi
theorem own_tabKeep {Z : State} {h h' : Heap} {a : Addr} {c : Cell} {ty : FieldType} {z : Int32} {ws : List Addr} (F : Tab Z h a c ty z) (K : Keep h h' ws) (q : a ∉ ws) : Tab Z h' a c ty z := ⟨⟨K.2.1 a c F.1.1 q, F.1.2⟩, F.2⟩
theorem own_len {s : State} {args : Array Value} {t : Term} {a : Addr} {cl : Cell} {n : Int32} (ev : t.eval args s none [] s = some (.ref a)) (ha : s.arrayAt? a = some cl) (h : (Term.length t).eval args s none [] s = some (.int n)) : cl.slots.size < 2 ^ 31 ∧ cl.slots.size.toInt32 = n := by
  by_cases hl : cl.slots.size < 2 ^ 31
  · exact ⟨hl, Value.int.inj (Option.some.inj ((len_f ev ha hl).symm.trans h))⟩
  · simp [Term.eval, ev, ha, hl] at h
theorem own_at {s : State} {args : Array Value} {t : Term} {a : Addr} {cl : Cell} {k v : Int32} (ev : t.eval args s none [] s = some (.ref a)) (ha : s.arrayAt? a = some cl) (hk : ¬ k < 0) (h : (Cond.eq (Term.elem t (.int k)) (.int v)).value args s none s [] = some true) : atv cl k = v :=
  atv_of ((elem_f (a := .int k) ev rfl ha hk).symm.trans (Cond.eq_int (Cond.before_iff.mpr h) rfl))
theorem own_off {o k : Int32} (h : 0 ≤ o.toInt ∧ o.toInt ≤ 2) (hk : 0 ≤ k.toInt ∧ k.toInt ≤ 5) : ¬ o + k < 0 ∧ o + k < 8 := by
  have q := c_iadd o k
  have r := rng32 (o + k)
  rw [Int32.lt_iff_toInt_lt, Int32.lt_iff_toInt_lt, show (0 : Int32).toInt = 0 from rfl, show (8 : Int32).toInt = 8 from rfl]
  omega
def own_sr (n b0 b1 b2 b3 b4 b5 : Int32) : Int32 := if n < 6 then 0 else if b0 = 60 then (if b1 = 56 then (if b2 = 53 then (if b3 = 62 then (if b4 = 49 then (if b5 = 32 then 1 else 0) else 0) else 0) else 0) else 0) else 0
theorem dp_0 : decode method_3_code 0 = .ok (.iload_n 2, 1) := by decide +kernel
theorem dp_1 : decode method_3_code 1 = .ok (.iload_n 3, 1) := by decide +kernel
theorem dp_2 : decode method_3_code 2 = .ok (.iushr, 1) := by decide +kernel
theorem dp_3 : decode method_3_code 3 = .ok (.iconst 1, 1) := by decide +kernel
theorem dp_4 : decode method_3_code 4 = .ok (.iand, 1) := by decide +kernel
theorem dp_5 : decode method_3_code 5 = .ok (.ifCond .ne 11, 3) := by decide +kernel
theorem dp_8 : decode method_3_code 8 = .ok (.aload_n 0, 1) := by decide +kernel
theorem dp_9 : decode method_3_code 9 = .ok (.iload_n 1, 1) := by decide +kernel
theorem dp_10 : decode method_3_code 10 = .ok (.iload_n 3, 1) := by decide +kernel
theorem dp_11 : decode method_3_code 11 = .ok (.iadd, 1) := by decide +kernel
theorem dp_12 : decode method_3_code 12 = .ok (.iload 4, 2) := by decide +kernel
theorem dp_14 : decode method_3_code 14 = .ok (.i2b, 1) := by decide +kernel
theorem dp_15 : decode method_3_code 15 = .ok (.bastore, 1) := by decide +kernel
theorem dp_16 : decode method_3_code 16 = .ok (.return_, 1) := by decide +kernel
theorem ds_0 : decode prog_79_method_5_code 0 = .ok (.iload_n 2, 1) := by decide +kernel
theorem ds_1 : decode prog_79_method_5_code 1 = .ok (.getstatic 110, 3) := by decide +kernel
theorem ds_4 : decode prog_79_method_5_code 4 = .ok (.arraylength, 1) := by decide +kernel
theorem ds_5 : decode prog_79_method_5_code 5 = .ok (.if_icmp .lt 7, 3) := by decide +kernel
theorem ds_8 : decode prog_79_method_5_code 8 = .ok (.iconst 1, 1) := by decide +kernel
theorem ds_9 : decode prog_79_method_5_code 9 = .ok (.goto 4, 3) := by decide +kernel
theorem ds_12 : decode prog_79_method_5_code 12 = .ok (.iconst 0, 1) := by decide +kernel
theorem ds_13 : decode prog_79_method_5_code 13 = .ok (.istore_n 3, 1) := by decide +kernel
theorem ds_14 : decode prog_79_method_5_code 14 = .ok (.iconst 0, 1) := by decide +kernel
theorem ds_15 : decode prog_79_method_5_code 15 = .ok (.istore 4, 2) := by decide +kernel
theorem ds_17 : decode prog_79_method_5_code 17 = .ok (.iload_n 3, 1) := by decide +kernel
theorem ds_18 : decode prog_79_method_5_code 18 = .ok (.ifCond .eq 39, 3) := by decide +kernel
theorem ds_21 : decode prog_79_method_5_code 21 = .ok (.iload 4, 2) := by decide +kernel
theorem ds_23 : decode prog_79_method_5_code 23 = .ok (.getstatic 110, 3) := by decide +kernel
theorem ds_26 : decode prog_79_method_5_code 26 = .ok (.arraylength, 1) := by decide +kernel
theorem ds_27 : decode prog_79_method_5_code 27 = .ok (.if_icmp .ge 30, 3) := by decide +kernel
theorem ds_30 : decode prog_79_method_5_code 30 = .ok (.aload_n 0, 1) := by decide +kernel
theorem ds_31 : decode prog_79_method_5_code 31 = .ok (.iload_n 1, 1) := by decide +kernel
theorem ds_32 : decode prog_79_method_5_code 32 = .ok (.iload 4, 2) := by decide +kernel
theorem ds_34 : decode prog_79_method_5_code 34 = .ok (.iadd, 1) := by decide +kernel
theorem ds_35 : decode prog_79_method_5_code 35 = .ok (.baload, 1) := by decide +kernel
theorem ds_36 : decode prog_79_method_5_code 36 = .ok (.getstatic 110, 3) := by decide +kernel
theorem ds_39 : decode prog_79_method_5_code 39 = .ok (.iload 4, 2) := by decide +kernel
theorem ds_41 : decode prog_79_method_5_code 41 = .ok (.baload, 1) := by decide +kernel
theorem ds_42 : decode prog_79_method_5_code 42 = .ok (.if_icmp .ne 7, 3) := by decide +kernel
theorem ds_45 : decode prog_79_method_5_code 45 = .ok (.iconst 1, 1) := by decide +kernel
theorem ds_46 : decode prog_79_method_5_code 46 = .ok (.goto 4, 3) := by decide +kernel
theorem ds_49 : decode prog_79_method_5_code 49 = .ok (.iconst 0, 1) := by decide +kernel
theorem ds_50 : decode prog_79_method_5_code 50 = .ok (.istore_n 3, 1) := by decide +kernel
theorem ds_51 : decode prog_79_method_5_code 51 = .ok (.iinc 4 1, 3) := by decide +kernel
theorem ds_54 : decode prog_79_method_5_code 54 = .ok (.goto (-37), 3) := by decide +kernel
theorem ds_57 : decode prog_79_method_5_code 57 = .ok (.iload_n 3, 1) := by decide +kernel
theorem ds_58 : decode prog_79_method_5_code 58 = .ok (.ireturn, 1) := by decide +kernel
theorem own_pn0 : plainName "com/example/auditwright/auditwright/delivery/SyslogFramerStartsAsRecordPinLaw" = true := by first | (simp [plainName, overriddenIn]; done) | decide +kernel
theorem own_pn1 : plainName "com/example/auditwright/auditwright/delivery/SyslogFramer" = true := by first | (simp [plainName, overriddenIn]; done) | decide +kernel
theorem own_pd0 : parseMethodDescriptor "([BIIIC)V" = some ⟨[(.array .byte), .int, .int, .int, .char], none⟩ := by decide +kernel
theorem own_pd1 : parseMethodDescriptor "([BII)Z" = some ⟨[(.array .byte), .int, .int], some .boolean⟩ := by decide +kernel
def own_Qp (Z : State) (xa : Addr) (h0 : Heap) (n0 : Nat) (v : Option Value) (h : Heap) (L : List Loc) : Prop := v = none ∧ Fr n0 L ∧ Keep h0 h [xa] ∧ ∃ cl' : Cell, Tab Z h xa cl' .byte 8
theorem own_put_ef (m : MethodId) (x0 : Addr) (x1 : Int32) (x2 : Int32) (x3 : Int32) (x4 : Int32) : entryFrame m #[(.ref x0), (.int x1), (.int x2), (.int x3), (.int x4)] 5 = mkF m 0 #[.val (.ref x0), .val (.int x1), .val (.int x2), .val (.int x3), .val (.int x4)] [] := by first | (simp [entryFrame, mkF, argsToLocals, Value.category]; done) | rfl
set_option maxRecDepth 65536 in
set_option maxHeartbeats 40000000 in
theorem own_put (l : Launch) (Z : State) (a0 : Array Value) (hw : ∀ d ∈ tables_1, d.before a0 Z = true) (ws : List Jvm.Cond) (xa : Addr) (xo xk xj xc : Int32) (cl : Cell) (h0 : Heap) (n0 : Nat) (Z0 : n0 ≤ h0.size) (TB : Tab Z h0 xa cl .byte 8) (g0 : n0 ≤ xa) (hi : ¬ xo + xj < 0 ∧ xo + xj < 8) :
    MetFree l (⟨"com/example/auditwright/auditwright/delivery/SyslogFramerStartsAsRecordPinLaw", "put", "([BIIIC)V"⟩ : MethodName) (head1 (Jvm.Cond.code (⟨"com/example/auditwright/auditwright/delivery/SyslogFramerStartsAsRecordPinLaw", "put", "([BIIIC)V"⟩ : MethodName) method_3_code 5 none :: ws) ({ frames := 0, cells := 0, slots := 0, locals := 0 } : Room)) (fun a U => a = #[(.ref xa), (.int xo), (.int xk), (.int xj), (.int xc)] ∧ Z.Warmed39 U.vm ∧ U.heap = h0) (fun _ _ _ _ _ => True) (fun _ U o U' => ∃ v L, o = .returned v ∧ own_Qp Z xa h0 n0 v U'.heap L ∧ FrameEnd U o U' L ({ frames := 0, cells := 0, slots := 0, locals := 0 } : Room).cells ({ frames := 0, cells := 0, slots := 0, locals := 0 } : Room).slots) := by
  refine MetFree.of_bodySF (plainFor_of_name own_pn0) hisR ?_
  intro p e s m args below meth c s₁ Bd hml0 hP hK
  obtain ⟨rfl, hZ, hh⟩ := hP
  have hx := Bd.exec
  have hby := Bd.bytes
  have hml : c.maxLocals = 5 := hml0
  have hown : s.vm.findClass "com/example/auditwright/auditwright/delivery/SyslogFramerStartsAsRecordPinLaw" = some m.cls := findClass_of_methodNamed Bd.named
  have hnm := (name_of_methodNamed Bd.named Bd.method).1
  have X0 : Stand p l e ({ frames := 0, cells := 0, slots := 0, locals := 0 } : Room) s m #[(.ref xa), (.int xo), (.int xk), (.int xj), (.int xc)] below meth c s₁ [] 0 0 := Stand.of_body Bd
  have e0 : s₁.heap = h0 := by rw [← hh, Bd.state]; rfl
  have N0 := Fr.nil n0
  have A0 : ∀ t, Steps p.tables e below (s₁.setTop (mkF m 0 #[.val (.ref xa), .val (.int xo), .val (.int xk), .val (.int xj), .val (.int xc)] [])) t → Steps p.tables e below (s₁.setTop (entryFrame m #[(.ref xa), (.int xo), (.int xk), (.int xj), (.int xc)] 5)) t := fun t k => castTop (own_put_ef m xa xo xk xj xc) k
  have A1 : ∀ t, Steps p.tables e below (s₁.setTop (mkF m 5 #[.val (.ref xa), .val (.int xo), .val (.int xk), .val (.int xj), .val (.int xc)] [(.int (((xk.toUInt32 >>> (xj &&& 31).toUInt32).toInt32) &&& (1 : Int32)))])) t → Steps p.tables e below (s₁.setTop (entryFrame m #[(.ref xa), (.int xo), (.int xk), (.int xj), (.int xc)] 5)) t := by
    intro t k
    refine A0 _ ?_
    refine XS.iloadN X0.here hx rfl (hb hby dp_0) rfl ?_
    show Steps p.tables e below (s₁.setTop (mkF m 1 #[.val (.ref xa), .val (.int xo), .val (.int xk), .val (.int xj), .val (.int xc)] [(.int xk)])) _
    refine XS.iloadN X0.here hx rfl (hb hby dp_1) rfl ?_
    show Steps p.tables e below (s₁.setTop (mkF m 2 #[.val (.ref xa), .val (.int xo), .val (.int xk), .val (.int xj), .val (.int xc)] [(.int xj), (.int xk)])) _
    refine XS.iushr X0.here hx rfl (hb hby dp_2) rfl ?_
    show Steps p.tables e below (s₁.setTop (mkF m 3 #[.val (.ref xa), .val (.int xo), .val (.int xk), .val (.int xj), .val (.int xc)] [(.int ((xk.toUInt32 >>> (xj &&& 31).toUInt32).toInt32))])) _
    refine XS.iconst X0.here hx rfl (hb hby dp_3) ?_
    show Steps p.tables e below (s₁.setTop (mkF m 4 #[.val (.ref xa), .val (.int xo), .val (.int xk), .val (.int xj), .val (.int xc)] [(.int (1 : Int32)), (.int ((xk.toUInt32 >>> (xj &&& 31).toUInt32).toInt32))])) _
    refine XS.iand X0.here hx rfl (hb hby dp_4) rfl ?_
    show Steps p.tables e below (s₁.setTop (mkF m 5 #[.val (.ref xa), .val (.int xo), .val (.int xk), .val (.int xj), .val (.int xc)] [(.int (((xk.toUInt32 >>> (xj &&& 31).toUInt32).toInt32) &&& (1 : Int32)))])) _
    exact k
  by_cases hc2 : (((xk.toUInt32 >>> (xj &&& 31).toUInt32).toInt32) &&& (1 : Int32)) = (0 : Int32)
  · have A3 : ∀ t, Steps p.tables e below (s₁.setTop (mkF m 15 #[.val (.ref xa), .val (.int xo), .val (.int xk), .val (.int xj), .val (.int xc)] [(.int (xc.toInt8.toInt32)), (.int (xo + xj)), (.ref xa)])) t → Steps p.tables e below (s₁.setTop (entryFrame m #[(.ref xa), (.int xo), (.int xk), (.int xj), (.int xc)] 5)) t := by
      intro t k
      refine A1 _ ?_
      refine XS.ifNo X0.here hx rfl (hb hby dp_5) rfl ((if0 _ _).trans (teq hc2).2) ?_
      show Steps p.tables e below (s₁.setTop (mkF m 8 #[.val (.ref xa), .val (.int xo), .val (.int xk), .val (.int xj), .val (.int xc)] [])) _
      refine XS.aloadN X0.here hx rfl (hb hby dp_8) rfl rfl ?_
      show Steps p.tables e below (s₁.setTop (mkF m 9 #[.val (.ref xa), .val (.int xo), .val (.int xk), .val (.int xj), .val (.int xc)] [(.ref xa)])) _
      refine XS.iloadN X0.here hx rfl (hb hby dp_9) rfl ?_
      show Steps p.tables e below (s₁.setTop (mkF m 10 #[.val (.ref xa), .val (.int xo), .val (.int xk), .val (.int xj), .val (.int xc)] [(.int xo), (.ref xa)])) _
      refine XS.iloadN X0.here hx rfl (hb hby dp_10) rfl ?_
      show Steps p.tables e below (s₁.setTop (mkF m 11 #[.val (.ref xa), .val (.int xo), .val (.int xk), .val (.int xj), .val (.int xc)] [(.int xj), (.int xo), (.ref xa)])) _
      refine XS.iadd X0.here hx rfl (hb hby dp_11) rfl ?_
      show Steps p.tables e below (s₁.setTop (mkF m 12 #[.val (.ref xa), .val (.int xo), .val (.int xk), .val (.int xj), .val (.int xc)] [(.int (xo + xj)), (.ref xa)])) _
      refine XS.iload X0.here hx rfl (hb hby dp_12) rfl ?_
      show Steps p.tables e below (s₁.setTop (mkF m 14 #[.val (.ref xa), .val (.int xo), .val (.int xk), .val (.int xj), .val (.int xc)] [(.int xc), (.int (xo + xj)), (.ref xa)])) _
      refine XS.i2b X0.here hx rfl (hb hby dp_14) rfl ?_
      show Steps p.tables e below (s₁.setTop (mkF m 15 #[.val (.ref xa), .val (.int xo), .val (.int xk), .val (.int xj), .val (.int xc)] [(.int (xc.toInt8.toInt32)), (.int (xo + xj)), (.ref xa)])) _
      exact k
    have hin := inb_of TB.2.1 hi
    obtain ⟨T4, h4, X4, e4, W4, st4⟩ := stB X0 hx hZ e0 TB.1 (j := (xo + xj)) hin (g := (mkF m 15 #[.val (.ref xa), .val (.int xo), .val (.int xk), .val (.int xj), .val (.int xc)] [(.int (xc.toInt8.toInt32)), (.int (xo + xj)), (.ref xa)])) rfl rfl (hb hby dp_15)
    have Nf5 := Fr.snoc X4 N0 g0
    have A6 : ∀ t, Steps p.tables e below (T4.setTop (mkF m 16 #[.val (.ref xa), .val (.int xo), .val (.int xk), .val (.int xj), .val (.int xc)] [])) t → Steps p.tables e below (s₁.setTop (entryFrame m #[(.ref xa), (.int xo), (.int xk), (.int xj), (.int xc)] 5)) t := by
      intro t k
      refine A3 _ ?_
      refine st4 _ ?_
      show Steps p.tables e below (T4.setTop (mkF m 16 #[.val (.ref xa), .val (.int xo), .val (.int xk), .val (.int xj), .val (.int xc)] [])) _
      exact k
    obtain ⟨fs, hr, hrun, hended, hW, hsame⟩ := X4.leave (v := none) (fun _ => rfl)
    refine ⟨_, _, A6 _ ?_, hrun, hended, _, _, rfl, ?_, ⟨_, rfl⟩, hW, hsame.mono (by decide) (by decide)⟩
    · exact X4.returnOut hx Bd.returns (hb hby dp_16) hr
    · show own_Qp Z xa h0 n0 _ T4.heap _
      rw [e4]
      exact ⟨rfl, Nf5, Keep.of_wr W4, _, own_tabSet TB hin W4⟩
  · have A7 : ∀ t, Steps p.tables e below (s₁.setTop (mkF m 16 #[.val (.ref xa), .val (.int xo), .val (.int xk), .val (.int xj), .val (.int xc)] [])) t → Steps p.tables e below (s₁.setTop (entryFrame m #[(.ref xa), (.int xo), (.int xk), (.int xj), (.int xc)] 5)) t := by
      intro t k
      refine A1 _ ?_
      refine XS.ifYes X0.here hx rfl (pc0 := 5) (pc' := 16) rfl (hb hby dp_5) rfl ((if0 _ _).trans (feq hc2).2) (by decide) (by decide) ?_
      show Steps p.tables e below (s₁.setTop (mkF m 16 #[.val (.ref xa), .val (.int xo), .val (.int xk), .val (.int xj), .val (.int xc)] [])) _
      exact k
    obtain ⟨fs, hr, hrun, hended, hW, hsame⟩ := X0.leave (v := none) (fun _ => rfl)
    refine ⟨_, _, A7 _ ?_, hrun, hended, _, _, rfl, ?_, ⟨_, rfl⟩, hW, hsame.mono (by decide) (by decide)⟩
    · exact X0.returnOut hx Bd.returns (hb hby dp_16) hr
    · show own_Qp Z xa h0 n0 _ s₁.heap _
      rw [e0]
      exact ⟨rfl, N0, Keep.refl _ _, _, TB⟩
def own_Qs (Z : State) (xo xn : Int32) (cl : Cell) (h0 : Heap) (n0 : Nat) (v : Option Value) (h : Heap) (L : List Loc) : Prop := v = some (.int (own_sr xn (atv cl (xo + (0 : Int32))) (atv cl (xo + (1 : Int32))) (atv cl (xo + (2 : Int32))) (atv cl (xo + (3 : Int32))) (atv cl (xo + (4 : Int32))) (atv cl (xo + (5 : Int32))))) ∧ Fr n0 L ∧ h = h0
theorem own_srM_ef (m : MethodId) (x0 : Addr) (x1 : Int32) (x2 : Int32) : entryFrame m #[(.ref x0), (.int x1), (.int x2)] 5 = mkF m 0 #[.val (.ref x0), .val (.int x1), .val (.int x2), .unset, .unset] [] := by first | (simp [entryFrame, mkF, argsToLocals, Value.category]; done) | rfl
set_option maxRecDepth 65536 in
set_option maxHeartbeats 40000000 in
theorem own_srM (l : Launch) (Z : State) (a0 : Array Value) (hw : ∀ d ∈ tables_1, d.before a0 Z = true) (ws : List Jvm.Cond) (xa va : Addr) (xo xn : Int32) (cl cr : Cell) (h0 : Heap) (n0 : Nat) (Z0 : n0 ≤ h0.size) (TB : Tab Z h0 xa cl .byte 8) (S0 : Sta Z h0 "com/example/auditwright/auditwright/delivery/SyslogFramer" "RECORD_START" "[B" (.ref va)) (TR : Tab Z h0 va cr .byte 6) (r0 : atv cr 0 = 60) (r1 : atv cr 1 = 56) (r2 : atv cr 2 = 53) (r3 : atv cr 3 = 62) (r4 : atv cr 4 = 49) (r5 : atv cr 5 = 32) (ho : 0 ≤ xo.toInt ∧ xo.toInt ≤ 2) :
    MetFree l (⟨"com/example/auditwright/auditwright/delivery/SyslogFramer", "startsAsRecord", "([BII)Z"⟩ : MethodName) (head1 (Jvm.Cond.code (⟨"com/example/auditwright/auditwright/delivery/SyslogFramer", "startsAsRecord", "([BII)Z"⟩ : MethodName) prog_79_method_5_code 5 (some .boolean) :: ws) ({ frames := 0, cells := 0, slots := 0, locals := 0 } : Room)) (fun a U => a = #[(.ref xa), (.int xo), (.int xn)] ∧ Z.Warmed39 U.vm ∧ U.heap = h0) (fun _ _ _ _ _ => True) (fun _ U o U' => ∃ v L, o = .returned v ∧ own_Qs Z xo xn cl h0 n0 v U'.heap L ∧ FrameEnd U o U' L ({ frames := 0, cells := 0, slots := 0, locals := 0 } : Room).cells ({ frames := 0, cells := 0, slots := 0, locals := 0 } : Room).slots) := by
  refine MetFree.of_bodySF (plainFor_of_name own_pn1) hisR ?_
  intro p e s m args below meth c s₁ Bd hml0 hP hK
  obtain ⟨rfl, hZ, hh⟩ := hP
  have hx := Bd.exec
  have hby := Bd.bytes
  have hml : c.maxLocals = 5 := hml0
  have hown : s.vm.findClass "com/example/auditwright/auditwright/delivery/SyslogFramer" = some m.cls := findClass_of_methodNamed Bd.named
  have hnm := (name_of_methodNamed Bd.named Bd.method).1
  have X0 : Stand p l e ({ frames := 0, cells := 0, slots := 0, locals := 0 } : Room) s m #[(.ref xa), (.int xo), (.int xn)] below meth c s₁ [] 0 0 := Stand.of_body Bd
  have e0 : s₁.heap = h0 := by rw [← hh, Bd.state]; rfl
  have N0 := Fr.nil n0
  have A0 : ∀ t, Steps p.tables e below (s₁.setTop (mkF m 0 #[.val (.ref xa), .val (.int xo), .val (.int xn), .unset, .unset] [])) t → Steps p.tables e below (s₁.setTop (entryFrame m #[(.ref xa), (.int xo), (.int xn)] 5)) t := fun t k => castTop (own_srM_ef m xa xo xn) k
  have hb0 := inb_of TB.2.1 (own_off ho (k := 0) (by decide))
  have hc0 : ¬ ((0 : Int32) < 0 ∨ cr.slots.size ≤ (0 : Int32).toNatClampNeg) := inb_of TR.2.1 ⟨by decide, by decide⟩
  have hd0 : cr.slots[(0 : Int32).toNatClampNeg]? = some (.int (60 : Int32)) := by rw [TR.2.2.2 _ hc0, r0]
  have hb1 := inb_of TB.2.1 (own_off ho (k := 1) (by decide))
  have hc1 : ¬ ((1 : Int32) < 0 ∨ cr.slots.size ≤ (1 : Int32).toNatClampNeg) := inb_of TR.2.1 ⟨by decide, by decide⟩
  have hd1 : cr.slots[(1 : Int32).toNatClampNeg]? = some (.int (56 : Int32)) := by rw [TR.2.2.2 _ hc1, r1]
  have hb2 := inb_of TB.2.1 (own_off ho (k := 2) (by decide))
  have hc2 : ¬ ((2 : Int32) < 0 ∨ cr.slots.size ≤ (2 : Int32).toNatClampNeg) := inb_of TR.2.1 ⟨by decide, by decide⟩
  have hd2 : cr.slots[(2 : Int32).toNatClampNeg]? = some (.int (53 : Int32)) := by rw [TR.2.2.2 _ hc2, r2]
  have hb3 := inb_of TB.2.1 (own_off ho (k := 3) (by decide))
  have hc3 : ¬ ((3 : Int32) < 0 ∨ cr.slots.size ≤ (3 : Int32).toNatClampNeg) := inb_of TR.2.1 ⟨by decide, by decide⟩
  have hd3 : cr.slots[(3 : Int32).toNatClampNeg]? = some (.int (62 : Int32)) := by rw [TR.2.2.2 _ hc3, r3]
  have hb4 := inb_of TB.2.1 (own_off ho (k := 4) (by decide))
  have hc4 : ¬ ((4 : Int32) < 0 ∨ cr.slots.size ≤ (4 : Int32).toNatClampNeg) := inb_of TR.2.1 ⟨by decide, by decide⟩
  have hd4 : cr.slots[(4 : Int32).toNatClampNeg]? = some (.int (49 : Int32)) := by rw [TR.2.2.2 _ hc4, r4]
  have hb5 := inb_of TB.2.1 (own_off ho (k := 5) (by decide))
  have hc5 : ¬ ((5 : Int32) < 0 ∨ cr.slots.size ≤ (5 : Int32).toNatClampNeg) := inb_of TR.2.1 ⟨by decide, by decide⟩
  have hd5 : cr.slots[(5 : Int32).toNatClampNeg]? = some (.int (32 : Int32)) := by rw [TR.2.2.2 _ hc5, r5]
  have A8 : ∀ t, Steps p.tables e below (s₁.setTop (mkF m 1 #[.val (.ref xa), .val (.int xo), .val (.int xn), .unset, .unset] [(.int xn)])) t → Steps p.tables e below (s₁.setTop (entryFrame m #[(.ref xa), (.int xo), (.int xn)] 5)) t := by
    intro t k
    refine A0 _ ?_
    refine XS.iloadN X0.here hx rfl (hb hby ds_0) rfl ?_
    show Steps p.tables e below (s₁.setTop (mkF m 1 #[.val (.ref xa), .val (.int xo), .val (.int xn), .unset, .unset] [(.int xn)])) _
    exact k
  obtain ⟨T9, X9, e9, st9⟩ := getS2 X0 hx hZ hown (host := "") (Or.inl (hw _ (List.mem_of_getElem? (i := 10) rfl))) Via.refl e0 S0 (g := (mkF m 1 #[.val (.ref xa), .val (.int xo), .val (.int xn), .unset, .unset] [(.int xn)])) rfl (hb hby ds_1)
  have A11 : ∀ t, Steps p.tables e below (T9.setTop (mkF m 5 #[.val (.ref xa), .val (.int xo), .val (.int xn), .unset, .unset] [(.int (6 : Int32)), (.int xn)])) t → Steps p.tables e below (s₁.setTop (entryFrame m #[(.ref xa), (.int xo), (.int xn)] 5)) t := by
    intro t k
    refine A8 _ ?_
    refine st9 _ ?_
    show Steps p.tables e below (T9.setTop (mkF m 4 #[.val (.ref xa), .val (.int xo), .val (.int xn), .unset, .unset] [(.ref va), (.int xn)])) _
    refine X9.arraylength hx (by rw [e9]; exact TR.1.1) (State.isArrayOf_alike hZ.alike TR.1.2.1) (g := (mkF m 4 #[.val (.ref xa), .val (.int xo), .val (.int xn), .unset, .unset] [(.ref va), (.int xn)])) rfl rfl (hb hby ds_4) _ ?_
    rw [len_of TR.2.1 TR.2.2.1]
    show Steps p.tables e below (T9.setTop (mkF m 5 #[.val (.ref xa), .val (.int xo), .val (.int xn), .unset, .unset] [(.int (6 : Int32)), (.int xn)])) _
    exact k
  by_cases hq10 : xn < (6 : Int32)
  · have A12 : ∀ t, Steps p.tables e below (T9.setTop (mkF m 58 #[.val (.ref xa), .val (.int xo), .val (.int xn), .val (.int (0 : Int32)), .val (.int (0 : Int32))] [(.int (0 : Int32))])) t → Steps p.tables e below (s₁.setTop (entryFrame m #[(.ref xa), (.int xo), (.int xn)] 5)) t := by
      intro t k
      refine A11 _ ?_
      refine XS.icmpYes X9.here hx rfl (pc0 := 5) (pc' := 12) rfl (hb hby ds_5) rfl (tlt hq10).1 (by decide) (by decide) ?_
      show Steps p.tables e below (T9.setTop (mkF m 12 #[.val (.ref xa), .val (.int xo), .val (.int xn), .unset, .unset] [])) _
      refine XS.iconst X9.here hx rfl (hb hby ds_12) ?_
      show Steps p.tables e below (T9.setTop (mkF m 13 #[.val (.ref xa), .val (.int xo), .val (.int xn), .unset, .unset] [(.int (0 : Int32))])) _
      refine XS.istoreN X9.here hx rfl (hb hby ds_13) rfl (l' := #[.val (.ref xa), .val (.int xo), .val (.int xn), .val (.int (0 : Int32)), .unset]) rfl ?_
      show Steps p.tables e below (T9.setTop (mkF m 14 #[.val (.ref xa), .val (.int xo), .val (.int xn), .val (.int (0 : Int32)), .unset] [])) _
      refine XS.iconst X9.here hx rfl (hb hby ds_14) ?_
      show Steps p.tables e below (T9.setTop (mkF m 15 #[.val (.ref xa), .val (.int xo), .val (.int xn), .val (.int (0 : Int32)), .unset] [(.int (0 : Int32))])) _
      refine XS.istore X9.here hx rfl (hb hby ds_15) rfl (l' := #[.val (.ref xa), .val (.int xo), .val (.int xn), .val (.int (0 : Int32)), .val (.int (0 : Int32))]) rfl ?_
      show Steps p.tables e below (T9.setTop (mkF m 17 #[.val (.ref xa), .val (.int xo), .val (.int xn), .val (.int (0 : Int32)), .val (.int (0 : Int32))] [])) _
      refine XS.iloadN X9.here hx rfl (hb hby ds_17) rfl ?_
      show Steps p.tables e below (T9.setTop (mkF m 18 #[.val (.ref xa), .val (.int xo), .val (.int xn), .val (.int (0 : Int32)), .val (.int (0 : Int32))] [(.int (0 : Int32))])) _
      refine XS.ifYes X9.here hx rfl (pc0 := 18) (pc' := 57) rfl (hb hby ds_18) rfl ((if0 _ _).trans (teq (by decide : ((0 : Int32) = (0 : Int32)))).1) (by decide) (by decide) ?_
      show Steps p.tables e below (T9.setTop (mkF m 57 #[.val (.ref xa), .val (.int xo), .val (.int xn), .val (.int (0 : Int32)), .val (.int (0 : Int32))] [])) _
      refine XS.iloadN X9.here hx rfl (hb hby ds_57) rfl ?_
      show Steps p.tables e below (T9.setTop (mkF m 58 #[.val (.ref xa), .val (.int xo), .val (.int xn), .val (.int (0 : Int32)), .val (.int (0 : Int32))] [(.int (0 : Int32))])) _
      exact k
    obtain ⟨fs, hr, hrun, hended, hW, hsame⟩ := X9.leave (v := some (.int (0 : Int32))) (fun h => by rw [Bd.returns] at h; cases h)
    refine ⟨_, _, A12 _ ?_, hrun, hended, _, _, rfl, ?_, ⟨_, rfl⟩, hW, hsame.mono (by decide) (by decide)⟩
    · exact retN X9 hx (t := .boolean) Bd.returns (by simp) (hb hby ds_58) hr
    · show own_Qs Z xo xn cl h0 n0 _ T9.heap _
      rw [e9]
      exact ⟨(by unfold own_sr; rw [if_pos hq10]), N0, rfl⟩
  · have A13 : ∀ t, Steps p.tables e below (T9.setTop (mkF m 23 #[.val (.ref xa), .val (.int xo), .val (.int xn), .val (.int (1 : Int32)), .val (.int (0 : Int32))] [(.int (0 : Int32))])) t → Steps p.tables e below (s₁.setTop (entryFrame m #[(.ref xa), (.int xo), (.int xn)] 5)) t := by
      intro t k
      refine A11 _ ?_
      refine XS.icmpNo X9.here hx rfl (hb hby ds_5) rfl (flt hq10).1 ?_
      show Steps p.tables e below (T9.setTop (mkF m 8 #[.val (.ref xa), .val (.int xo), .val (.int xn), .unset, .unset] [])) _
      refine XS.iconst X9.here hx rfl (hb hby ds_8) ?_
      show Steps p.tables e below (T9.setTop (mkF m 9 #[.val (.ref xa), .val (.int xo), .val (.int xn), .unset, .unset] [(.int (1 : Int32))])) _
      refine XS.goto X9.here hx rfl (pc0 := 9) (pc' := 13) rfl (hb hby ds_9) (by decide) (by decide) ?_
      show Steps p.tables e below (T9.setTop (mkF m 13 #[.val (.ref xa), .val (.int xo), .val (.int xn), .unset, .unset] [(.int (1 : Int32))])) _
      refine XS.istoreN X9.here hx rfl (hb hby ds_13) rfl (l' := #[.val (.ref xa), .val (.int xo), .val (.int xn), .val (.int (1 : Int32)), .unset]) rfl ?_
      show Steps p.tables e below (T9.setTop (mkF m 14 #[.val (.ref xa), .val (.int xo), .val (.int xn), .val (.int (1 : Int32)), .unset] [])) _
      refine XS.iconst X9.here hx rfl (hb hby ds_14) ?_
      show Steps p.tables e below (T9.setTop (mkF m 15 #[.val (.ref xa), .val (.int xo), .val (.int xn), .val (.int (1 : Int32)), .unset] [(.int (0 : Int32))])) _
      refine XS.istore X9.here hx rfl (hb hby ds_15) rfl (l' := #[.val (.ref xa), .val (.int xo), .val (.int xn), .val (.int (1 : Int32)), .val (.int (0 : Int32))]) rfl ?_
      show Steps p.tables e below (T9.setTop (mkF m 17 #[.val (.ref xa), .val (.int xo), .val (.int xn), .val (.int (1 : Int32)), .val (.int (0 : Int32))] [])) _
      refine XS.iloadN X9.here hx rfl (hb hby ds_17) rfl ?_
      show Steps p.tables e below (T9.setTop (mkF m 18 #[.val (.ref xa), .val (.int xo), .val (.int xn), .val (.int (1 : Int32)), .val (.int (0 : Int32))] [(.int (1 : Int32))])) _
      refine XS.ifNo X9.here hx rfl (hb hby ds_18) rfl ((if0 _ _).trans (feq (by decide : ¬ ((1 : Int32) = (0 : Int32)))).1) ?_
      show Steps p.tables e below (T9.setTop (mkF m 21 #[.val (.ref xa), .val (.int xo), .val (.int xn), .val (.int (1 : Int32)), .val (.int (0 : Int32))] [])) _
      refine XS.iload X9.here hx rfl (hb hby ds_21) rfl ?_
      show Steps p.tables e below (T9.setTop (mkF m 23 #[.val (.ref xa), .val (.int xo), .val (.int xn), .val (.int (1 : Int32)), .val (.int (0 : Int32))] [(.int (0 : Int32))])) _
      exact k
    obtain ⟨T14, X14, e14, st14⟩ := getS2 X9 hx hZ hown (host := "") (Or.inl (hw _ (List.mem_of_getElem? (i := 10) rfl))) Via.refl e9 S0 (g := (mkF m 23 #[.val (.ref xa), .val (.int xo), .val (.int xn), .val (.int (1 : Int32)), .val (.int (0 : Int32))] [(.int (0 : Int32))])) rfl (hb hby ds_23)
    have A15 : ∀ t, Steps p.tables e below (T14.setTop (mkF m 36 #[.val (.ref xa), .val (.int xo), .val (.int xn), .val (.int (1 : Int32)), .val (.int (0 : Int32))] [(.int (atv cl (xo + (0 : Int32))))])) t → Steps p.tables e below (s₁.setTop (entryFrame m #[(.ref xa), (.int xo), (.int xn)] 5)) t := by
      intro t k
      refine A13 _ ?_
      refine st14 _ ?_
      show Steps p.tables e below (T14.setTop (mkF m 26 #[.val (.ref xa), .val (.int xo), .val (.int xn), .val (.int (1 : Int32)), .val (.int (0 : Int32))] [(.ref va), (.int (0 : Int32))])) _
      refine X14.arraylength hx (by rw [e14]; exact TR.1.1) (State.isArrayOf_alike hZ.alike TR.1.2.1) (g := (mkF m 26 #[.val (.ref xa), .val (.int xo), .val (.int xn), .val (.int (1 : Int32)), .val (.int (0 : Int32))] [(.ref va), (.int (0 : Int32))])) rfl rfl (hb hby ds_26) _ ?_
      rw [len_of TR.2.1 TR.2.2.1]
      show Steps p.tables e below (T14.setTop (mkF m 27 #[.val (.ref xa), .val (.int xo), .val (.int xn), .val (.int (1 : Int32)), .val (.int (0 : Int32))] [(.int (6 : Int32)), (.int (0 : Int32))])) _
      refine XS.icmpNo X14.here hx rfl (hb hby ds_27) rfl (tlt (by decide : ((0 : Int32) < (6 : Int32)))).2.1 ?_
      show Steps p.tables e below (T14.setTop (mkF m 30 #[.val (.ref xa), .val (.int xo), .val (.int xn), .val (.int (1 : Int32)), .val (.int (0 : Int32))] [])) _
      refine XS.aloadN X14.here hx rfl (hb hby ds_30) rfl rfl ?_
      show Steps p.tables e below (T14.setTop (mkF m 31 #[.val (.ref xa), .val (.int xo), .val (.int xn), .val (.int (1 : Int32)), .val (.int (0 : Int32))] [(.ref xa)])) _
      refine XS.iloadN X14.here hx rfl (hb hby ds_31) rfl ?_
      show Steps p.tables e below (T14.setTop (mkF m 32 #[.val (.ref xa), .val (.int xo), .val (.int xn), .val (.int (1 : Int32)), .val (.int (0 : Int32))] [(.int xo), (.ref xa)])) _
      refine XS.iload X14.here hx rfl (hb hby ds_32) rfl ?_
      show Steps p.tables e below (T14.setTop (mkF m 34 #[.val (.ref xa), .val (.int xo), .val (.int xn), .val (.int (1 : Int32)), .val (.int (0 : Int32))] [(.int (0 : Int32)), (.int xo), (.ref xa)])) _
      refine XS.iadd X14.here hx rfl (hb hby ds_34) rfl ?_
      show Steps p.tables e below (T14.setTop (mkF m 35 #[.val (.ref xa), .val (.int xo), .val (.int xn), .val (.int (1 : Int32)), .val (.int (0 : Int32))] [(.int (xo + (0 : Int32))), (.ref xa)])) _
      refine X14.baloadBytes hx (j := (xo + (0 : Int32))) (v := (.int (atv cl (xo + (0 : Int32))))) (by rw [e14]; exact TB.1.1) (State.isArrayOf_alike hZ.alike TB.1.2.1) TB.1.2.2 hb0 (TB.2.2.2 _ hb0) (g := (mkF m 35 #[.val (.ref xa), .val (.int xo), .val (.int xn), .val (.int (1 : Int32)), .val (.int (0 : Int32))] [(.int (xo + (0 : Int32))), (.ref xa)])) rfl rfl (hb hby ds_35) _ ?_
      show Steps p.tables e below (T14.setTop (mkF m 36 #[.val (.ref xa), .val (.int xo), .val (.int xn), .val (.int (1 : Int32)), .val (.int (0 : Int32))] [(.int (atv cl (xo + (0 : Int32))))])) _
      exact k
    obtain ⟨T16, X16, e16, st16⟩ := getS2 X14 hx hZ hown (host := "") (Or.inl (hw _ (List.mem_of_getElem? (i := 10) rfl))) Via.refl e14 S0 (g := (mkF m 36 #[.val (.ref xa), .val (.int xo), .val (.int xn), .val (.int (1 : Int32)), .val (.int (0 : Int32))] [(.int (atv cl (xo + (0 : Int32))))])) rfl (hb hby ds_36)
    have A18 : ∀ t, Steps p.tables e below (T16.setTop (mkF m 42 #[.val (.ref xa), .val (.int xo), .val (.int xn), .val (.int (1 : Int32)), .val (.int (0 : Int32))] [(.int (60 : Int32)), (.int (atv cl (xo + (0 : Int32))))])) t → Steps p.tables e below (s₁.setTop (entryFrame m #[(.ref xa), (.int xo), (.int xn)] 5)) t := by
      intro t k
      refine A15 _ ?_
      refine st16 _ ?_
      show Steps p.tables e below (T16.setTop (mkF m 39 #[.val (.ref xa), .val (.int xo), .val (.int xn), .val (.int (1 : Int32)), .val (.int (0 : Int32))] [(.ref va), (.int (atv cl (xo + (0 : Int32))))])) _
      refine XS.iload X16.here hx rfl (hb hby ds_39) rfl ?_
      show Steps p.tables e below (T16.setTop (mkF m 41 #[.val (.ref xa), .val (.int xo), .val (.int xn), .val (.int (1 : Int32)), .val (.int (0 : Int32))] [(.int (0 : Int32)), (.ref va), (.int (atv cl (xo + (0 : Int32))))])) _
      refine X16.baloadBytes hx (j := (0 : Int32)) (v := (.int (60 : Int32))) (by rw [e16]; exact TR.1.1) (State.isArrayOf_alike hZ.alike TR.1.2.1) TR.1.2.2 hc0 hd0 (g := (mkF m 41 #[.val (.ref xa), .val (.int xo), .val (.int xn), .val (.int (1 : Int32)), .val (.int (0 : Int32))] [(.int (0 : Int32)), (.ref va), (.int (atv cl (xo + (0 : Int32))))])) rfl rfl (hb hby ds_41) _ ?_
      show Steps p.tables e below (T16.setTop (mkF m 42 #[.val (.ref xa), .val (.int xo), .val (.int xn), .val (.int (1 : Int32)), .val (.int (0 : Int32))] [(.int (60 : Int32)), (.int (atv cl (xo + (0 : Int32))))])) _
      exact k
    by_cases hq17 : (atv cl (xo + (0 : Int32))) = (60 : Int32)
    · have A19 : ∀ t, Steps p.tables e below (T16.setTop (mkF m 23 #[.val (.ref xa), .val (.int xo), .val (.int xn), .val (.int (1 : Int32)), .val (.int (1 : Int32))] [(.int (1 : Int32))])) t → Steps p.tables e below (s₁.setTop (entryFrame m #[(.ref xa), (.int xo), (.int xn)] 5)) t := by
        intro t k
        refine A18 _ ?_
        refine XS.icmpNo X16.here hx rfl (hb hby ds_42) rfl (teq hq17).2 ?_
        show Steps p.tables e below (T16.setTop (mkF m 45 #[.val (.ref xa), .val (.int xo), .val (.int xn), .val (.int (1 : Int32)), .val (.int (0 : Int32))] [])) _
        refine XS.iconst X16.here hx rfl (hb hby ds_45) ?_
        show Steps p.tables e below (T16.setTop (mkF m 46 #[.val (.ref xa), .val (.int xo), .val (.int xn), .val (.int (1 : Int32)), .val (.int (0 : Int32))] [(.int (1 : Int32))])) _
        refine XS.goto X16.here hx rfl (pc0 := 46) (pc' := 50) rfl (hb hby ds_46) (by decide) (by decide) ?_
        show Steps p.tables e below (T16.setTop (mkF m 50 #[.val (.ref xa), .val (.int xo), .val (.int xn), .val (.int (1 : Int32)), .val (.int (0 : Int32))] [(.int (1 : Int32))])) _
        refine XS.istoreN X16.here hx rfl (hb hby ds_50) rfl (l' := #[.val (.ref xa), .val (.int xo), .val (.int xn), .val (.int (1 : Int32)), .val (.int (0 : Int32))]) rfl ?_
        show Steps p.tables e below (T16.setTop (mkF m 51 #[.val (.ref xa), .val (.int xo), .val (.int xn), .val (.int (1 : Int32)), .val (.int (0 : Int32))] [])) _
        refine XS.iinc X16.here hx rfl (hb hby ds_51) rfl (l' := #[.val (.ref xa), .val (.int xo), .val (.int xn), .val (.int (1 : Int32)), .val (.int (1 : Int32))]) rfl ?_
        show Steps p.tables e below (T16.setTop (mkF m 54 #[.val (.ref xa), .val (.int xo), .val (.int xn), .val (.int (1 : Int32)), .val (.int (1 : Int32))] [])) _
        refine XS.goto X16.here hx rfl (pc0 := 54) (pc' := 17) rfl (hb hby ds_54) (by decide) (by decide) ?_
        show Steps p.tables e below (T16.setTop (mkF m 17 #[.val (.ref xa), .val (.int xo), .val (.int xn), .val (.int (1 : Int32)), .val (.int (1 : Int32))] [])) _
        refine XS.iloadN X16.here hx rfl (hb hby ds_17) rfl ?_
        show Steps p.tables e below (T16.setTop (mkF m 18 #[.val (.ref xa), .val (.int xo), .val (.int xn), .val (.int (1 : Int32)), .val (.int (1 : Int32))] [(.int (1 : Int32))])) _
        refine XS.ifNo X16.here hx rfl (hb hby ds_18) rfl ((if0 _ _).trans (feq (by decide : ¬ ((1 : Int32) = (0 : Int32)))).1) ?_
        show Steps p.tables e below (T16.setTop (mkF m 21 #[.val (.ref xa), .val (.int xo), .val (.int xn), .val (.int (1 : Int32)), .val (.int (1 : Int32))] [])) _
        refine XS.iload X16.here hx rfl (hb hby ds_21) rfl ?_
        show Steps p.tables e below (T16.setTop (mkF m 23 #[.val (.ref xa), .val (.int xo), .val (.int xn), .val (.int (1 : Int32)), .val (.int (1 : Int32))] [(.int (1 : Int32))])) _
        exact k
      obtain ⟨T20, X20, e20, st20⟩ := getS2 X16 hx hZ hown (host := "") (Or.inl (hw _ (List.mem_of_getElem? (i := 10) rfl))) Via.refl e16 S0 (g := (mkF m 23 #[.val (.ref xa), .val (.int xo), .val (.int xn), .val (.int (1 : Int32)), .val (.int (1 : Int32))] [(.int (1 : Int32))])) rfl (hb hby ds_23)
      have A21 : ∀ t, Steps p.tables e below (T20.setTop (mkF m 36 #[.val (.ref xa), .val (.int xo), .val (.int xn), .val (.int (1 : Int32)), .val (.int (1 : Int32))] [(.int (atv cl (xo + (1 : Int32))))])) t → Steps p.tables e below (s₁.setTop (entryFrame m #[(.ref xa), (.int xo), (.int xn)] 5)) t := by
        intro t k
        refine A19 _ ?_
        refine st20 _ ?_
        show Steps p.tables e below (T20.setTop (mkF m 26 #[.val (.ref xa), .val (.int xo), .val (.int xn), .val (.int (1 : Int32)), .val (.int (1 : Int32))] [(.ref va), (.int (1 : Int32))])) _
        refine X20.arraylength hx (by rw [e20]; exact TR.1.1) (State.isArrayOf_alike hZ.alike TR.1.2.1) (g := (mkF m 26 #[.val (.ref xa), .val (.int xo), .val (.int xn), .val (.int (1 : Int32)), .val (.int (1 : Int32))] [(.ref va), (.int (1 : Int32))])) rfl rfl (hb hby ds_26) _ ?_
        rw [len_of TR.2.1 TR.2.2.1]
        show Steps p.tables e below (T20.setTop (mkF m 27 #[.val (.ref xa), .val (.int xo), .val (.int xn), .val (.int (1 : Int32)), .val (.int (1 : Int32))] [(.int (6 : Int32)), (.int (1 : Int32))])) _
        refine XS.icmpNo X20.here hx rfl (hb hby ds_27) rfl (tlt (by decide : ((1 : Int32) < (6 : Int32)))).2.1 ?_
        show Steps p.tables e below (T20.setTop (mkF m 30 #[.val (.ref xa), .val (.int xo), .val (.int xn), .val (.int (1 : Int32)), .val (.int (1 : Int32))] [])) _
        refine XS.aloadN X20.here hx rfl (hb hby ds_30) rfl rfl ?_
        show Steps p.tables e below (T20.setTop (mkF m 31 #[.val (.ref xa), .val (.int xo), .val (.int xn), .val (.int (1 : Int32)), .val (.int (1 : Int32))] [(.ref xa)])) _
        refine XS.iloadN X20.here hx rfl (hb hby ds_31) rfl ?_
        show Steps p.tables e below (T20.setTop (mkF m 32 #[.val (.ref xa), .val (.int xo), .val (.int xn), .val (.int (1 : Int32)), .val (.int (1 : Int32))] [(.int xo), (.ref xa)])) _
        refine XS.iload X20.here hx rfl (hb hby ds_32) rfl ?_
        show Steps p.tables e below (T20.setTop (mkF m 34 #[.val (.ref xa), .val (.int xo), .val (.int xn), .val (.int (1 : Int32)), .val (.int (1 : Int32))] [(.int (1 : Int32)), (.int xo), (.ref xa)])) _
        refine XS.iadd X20.here hx rfl (hb hby ds_34) rfl ?_
        show Steps p.tables e below (T20.setTop (mkF m 35 #[.val (.ref xa), .val (.int xo), .val (.int xn), .val (.int (1 : Int32)), .val (.int (1 : Int32))] [(.int (xo + (1 : Int32))), (.ref xa)])) _
        refine X20.baloadBytes hx (j := (xo + (1 : Int32))) (v := (.int (atv cl (xo + (1 : Int32))))) (by rw [e20]; exact TB.1.1) (State.isArrayOf_alike hZ.alike TB.1.2.1) TB.1.2.2 hb1 (TB.2.2.2 _ hb1) (g := (mkF m 35 #[.val (.ref xa), .val (.int xo), .val (.int xn), .val (.int (1 : Int32)), .val (.int (1 : Int32))] [(.int (xo + (1 : Int32))), (.ref xa)])) rfl rfl (hb hby ds_35) _ ?_
        show Steps p.tables e below (T20.setTop (mkF m 36 #[.val (.ref xa), .val (.int xo), .val (.int xn), .val (.int (1 : Int32)), .val (.int (1 : Int32))] [(.int (atv cl (xo + (1 : Int32))))])) _
        exact k
      obtain ⟨T22, X22, e22, st22⟩ := getS2 X20 hx hZ hown (host := "") (Or.inl (hw _ (List.mem_of_getElem? (i := 10) rfl))) Via.refl e20 S0 (g := (mkF m 36 #[.val (.ref xa), .val (.int xo), .val (.int xn), .val (.int (1 : Int32)), .val (.int (1 : Int32))] [(.int (atv cl (xo + (1 : Int32))))])) rfl (hb hby ds_36)
      have A24 : ∀ t, Steps p.tables e below (T22.setTop (mkF m 42 #[.val (.ref xa), .val (.int xo), .val (.int xn), .val (.int (1 : Int32)), .val (.int (1 : Int32))] [(.int (56 : Int32)), (.int (atv cl (xo + (1 : Int32))))])) t → Steps p.tables e below (s₁.setTop (entryFrame m #[(.ref xa), (.int xo), (.int xn)] 5)) t := by
        intro t k
        refine A21 _ ?_
        refine st22 _ ?_
        show Steps p.tables e below (T22.setTop (mkF m 39 #[.val (.ref xa), .val (.int xo), .val (.int xn), .val (.int (1 : Int32)), .val (.int (1 : Int32))] [(.ref va), (.int (atv cl (xo + (1 : Int32))))])) _
        refine XS.iload X22.here hx rfl (hb hby ds_39) rfl ?_
        show Steps p.tables e below (T22.setTop (mkF m 41 #[.val (.ref xa), .val (.int xo), .val (.int xn), .val (.int (1 : Int32)), .val (.int (1 : Int32))] [(.int (1 : Int32)), (.ref va), (.int (atv cl (xo + (1 : Int32))))])) _
        refine X22.baloadBytes hx (j := (1 : Int32)) (v := (.int (56 : Int32))) (by rw [e22]; exact TR.1.1) (State.isArrayOf_alike hZ.alike TR.1.2.1) TR.1.2.2 hc1 hd1 (g := (mkF m 41 #[.val (.ref xa), .val (.int xo), .val (.int xn), .val (.int (1 : Int32)), .val (.int (1 : Int32))] [(.int (1 : Int32)), (.ref va), (.int (atv cl (xo + (1 : Int32))))])) rfl rfl (hb hby ds_41) _ ?_
        show Steps p.tables e below (T22.setTop (mkF m 42 #[.val (.ref xa), .val (.int xo), .val (.int xn), .val (.int (1 : Int32)), .val (.int (1 : Int32))] [(.int (56 : Int32)), (.int (atv cl (xo + (1 : Int32))))])) _
        exact k
      by_cases hq23 : (atv cl (xo + (1 : Int32))) = (56 : Int32)
      · have A25 : ∀ t, Steps p.tables e below (T22.setTop (mkF m 23 #[.val (.ref xa), .val (.int xo), .val (.int xn), .val (.int (1 : Int32)), .val (.int (2 : Int32))] [(.int (2 : Int32))])) t → Steps p.tables e below (s₁.setTop (entryFrame m #[(.ref xa), (.int xo), (.int xn)] 5)) t := by
          intro t k
          refine A24 _ ?_
          refine XS.icmpNo X22.here hx rfl (hb hby ds_42) rfl (teq hq23).2 ?_
          show Steps p.tables e below (T22.setTop (mkF m 45 #[.val (.ref xa), .val (.int xo), .val (.int xn), .val (.int (1 : Int32)), .val (.int (1 : Int32))] [])) _
          refine XS.iconst X22.here hx rfl (hb hby ds_45) ?_
          show Steps p.tables e below (T22.setTop (mkF m 46 #[.val (.ref xa), .val (.int xo), .val (.int xn), .val (.int (1 : Int32)), .val (.int (1 : Int32))] [(.int (1 : Int32))])) _
          refine XS.goto X22.here hx rfl (pc0 := 46) (pc' := 50) rfl (hb hby ds_46) (by decide) (by decide) ?_
          show Steps p.tables e below (T22.setTop (mkF m 50 #[.val (.ref xa), .val (.int xo), .val (.int xn), .val (.int (1 : Int32)), .val (.int (1 : Int32))] [(.int (1 : Int32))])) _
          refine XS.istoreN X22.here hx rfl (hb hby ds_50) rfl (l' := #[.val (.ref xa), .val (.int xo), .val (.int xn), .val (.int (1 : Int32)), .val (.int (1 : Int32))]) rfl ?_
          show Steps p.tables e below (T22.setTop (mkF m 51 #[.val (.ref xa), .val (.int xo), .val (.int xn), .val (.int (1 : Int32)), .val (.int (1 : Int32))] [])) _
          refine XS.iinc X22.here hx rfl (hb hby ds_51) rfl (l' := #[.val (.ref xa), .val (.int xo), .val (.int xn), .val (.int (1 : Int32)), .val (.int (2 : Int32))]) rfl ?_
          show Steps p.tables e below (T22.setTop (mkF m 54 #[.val (.ref xa), .val (.int xo), .val (.int xn), .val (.int (1 : Int32)), .val (.int (2 : Int32))] [])) _
          refine XS.goto X22.here hx rfl (pc0 := 54) (pc' := 17) rfl (hb hby ds_54) (by decide) (by decide) ?_
          show Steps p.tables e below (T22.setTop (mkF m 17 #[.val (.ref xa), .val (.int xo), .val (.int xn), .val (.int (1 : Int32)), .val (.int (2 : Int32))] [])) _
          refine XS.iloadN X22.here hx rfl (hb hby ds_17) rfl ?_
          show Steps p.tables e below (T22.setTop (mkF m 18 #[.val (.ref xa), .val (.int xo), .val (.int xn), .val (.int (1 : Int32)), .val (.int (2 : Int32))] [(.int (1 : Int32))])) _
          refine XS.ifNo X22.here hx rfl (hb hby ds_18) rfl ((if0 _ _).trans (feq (by decide : ¬ ((1 : Int32) = (0 : Int32)))).1) ?_
          show Steps p.tables e below (T22.setTop (mkF m 21 #[.val (.ref xa), .val (.int xo), .val (.int xn), .val (.int (1 : Int32)), .val (.int (2 : Int32))] [])) _
          refine XS.iload X22.here hx rfl (hb hby ds_21) rfl ?_
          show Steps p.tables e below (T22.setTop (mkF m 23 #[.val (.ref xa), .val (.int xo), .val (.int xn), .val (.int (1 : Int32)), .val (.int (2 : Int32))] [(.int (2 : Int32))])) _
          exact k
        obtain ⟨T26, X26, e26, st26⟩ := getS2 X22 hx hZ hown (host := "") (Or.inl (hw _ (List.mem_of_getElem? (i := 10) rfl))) Via.refl e22 S0 (g := (mkF m 23 #[.val (.ref xa), .val (.int xo), .val (.int xn), .val (.int (1 : Int32)), .val (.int (2 : Int32))] [(.int (2 : Int32))])) rfl (hb hby ds_23)
        have A27 : ∀ t, Steps p.tables e below (T26.setTop (mkF m 36 #[.val (.ref xa), .val (.int xo), .val (.int xn), .val (.int (1 : Int32)), .val (.int (2 : Int32))] [(.int (atv cl (xo + (2 : Int32))))])) t → Steps p.tables e below (s₁.setTop (entryFrame m #[(.ref xa), (.int xo), (.int xn)] 5)) t := by
          intro t k
          refine A25 _ ?_
          refine st26 _ ?_
          show Steps p.tables e below (T26.setTop (mkF m 26 #[.val (.ref xa), .val (.int xo), .val (.int xn), .val (.int (1 : Int32)), .val (.int (2 : Int32))] [(.ref va), (.int (2 : Int32))])) _
          refine X26.arraylength hx (by rw [e26]; exact TR.1.1) (State.isArrayOf_alike hZ.alike TR.1.2.1) (g := (mkF m 26 #[.val (.ref xa), .val (.int xo), .val (.int xn), .val (.int (1 : Int32)), .val (.int (2 : Int32))] [(.ref va), (.int (2 : Int32))])) rfl rfl (hb hby ds_26) _ ?_
          rw [len_of TR.2.1 TR.2.2.1]
          show Steps p.tables e below (T26.setTop (mkF m 27 #[.val (.ref xa), .val (.int xo), .val (.int xn), .val (.int (1 : Int32)), .val (.int (2 : Int32))] [(.int (6 : Int32)), (.int (2 : Int32))])) _
          refine XS.icmpNo X26.here hx rfl (hb hby ds_27) rfl (tlt (by decide : ((2 : Int32) < (6 : Int32)))).2.1 ?_
          show Steps p.tables e below (T26.setTop (mkF m 30 #[.val (.ref xa), .val (.int xo), .val (.int xn), .val (.int (1 : Int32)), .val (.int (2 : Int32))] [])) _
          refine XS.aloadN X26.here hx rfl (hb hby ds_30) rfl rfl ?_
          show Steps p.tables e below (T26.setTop (mkF m 31 #[.val (.ref xa), .val (.int xo), .val (.int xn), .val (.int (1 : Int32)), .val (.int (2 : Int32))] [(.ref xa)])) _
          refine XS.iloadN X26.here hx rfl (hb hby ds_31) rfl ?_
          show Steps p.tables e below (T26.setTop (mkF m 32 #[.val (.ref xa), .val (.int xo), .val (.int xn), .val (.int (1 : Int32)), .val (.int (2 : Int32))] [(.int xo), (.ref xa)])) _
          refine XS.iload X26.here hx rfl (hb hby ds_32) rfl ?_
          show Steps p.tables e below (T26.setTop (mkF m 34 #[.val (.ref xa), .val (.int xo), .val (.int xn), .val (.int (1 : Int32)), .val (.int (2 : Int32))] [(.int (2 : Int32)), (.int xo), (.ref xa)])) _
          refine XS.iadd X26.here hx rfl (hb hby ds_34) rfl ?_
          show Steps p.tables e below (T26.setTop (mkF m 35 #[.val (.ref xa), .val (.int xo), .val (.int xn), .val (.int (1 : Int32)), .val (.int (2 : Int32))] [(.int (xo + (2 : Int32))), (.ref xa)])) _
          refine X26.baloadBytes hx (j := (xo + (2 : Int32))) (v := (.int (atv cl (xo + (2 : Int32))))) (by rw [e26]; exact TB.1.1) (State.isArrayOf_alike hZ.alike TB.1.2.1) TB.1.2.2 hb2 (TB.2.2.2 _ hb2) (g := (mkF m 35 #[.val (.ref xa), .val (.int xo), .val (.int xn), .val (.int (1 : Int32)), .val (.int (2 : Int32))] [(.int (xo + (2 : Int32))), (.ref xa)])) rfl rfl (hb hby ds_35) _ ?_
          show Steps p.tables e below (T26.setTop (mkF m 36 #[.val (.ref xa), .val (.int xo), .val (.int xn), .val (.int (1 : Int32)), .val (.int (2 : Int32))] [(.int (atv cl (xo + (2 : Int32))))])) _
          exact k
        obtain ⟨T28, X28, e28, st28⟩ := getS2 X26 hx hZ hown (host := "") (Or.inl (hw _ (List.mem_of_getElem? (i := 10) rfl))) Via.refl e26 S0 (g := (mkF m 36 #[.val (.ref xa), .val (.int xo), .val (.int xn), .val (.int (1 : Int32)), .val (.int (2 : Int32))] [(.int (atv cl (xo + (2 : Int32))))])) rfl (hb hby ds_36)
        have A30 : ∀ t, Steps p.tables e below (T28.setTop (mkF m 42 #[.val (.ref xa), .val (.int xo), .val (.int xn), .val (.int (1 : Int32)), .val (.int (2 : Int32))] [(.int (53 : Int32)), (.int (atv cl (xo + (2 : Int32))))])) t → Steps p.tables e below (s₁.setTop (entryFrame m #[(.ref xa), (.int xo), (.int xn)] 5)) t := by
          intro t k
          refine A27 _ ?_
          refine st28 _ ?_
          show Steps p.tables e below (T28.setTop (mkF m 39 #[.val (.ref xa), .val (.int xo), .val (.int xn), .val (.int (1 : Int32)), .val (.int (2 : Int32))] [(.ref va), (.int (atv cl (xo + (2 : Int32))))])) _
          refine XS.iload X28.here hx rfl (hb hby ds_39) rfl ?_
          show Steps p.tables e below (T28.setTop (mkF m 41 #[.val (.ref xa), .val (.int xo), .val (.int xn), .val (.int (1 : Int32)), .val (.int (2 : Int32))] [(.int (2 : Int32)), (.ref va), (.int (atv cl (xo + (2 : Int32))))])) _
          refine X28.baloadBytes hx (j := (2 : Int32)) (v := (.int (53 : Int32))) (by rw [e28]; exact TR.1.1) (State.isArrayOf_alike hZ.alike TR.1.2.1) TR.1.2.2 hc2 hd2 (g := (mkF m 41 #[.val (.ref xa), .val (.int xo), .val (.int xn), .val (.int (1 : Int32)), .val (.int (2 : Int32))] [(.int (2 : Int32)), (.ref va), (.int (atv cl (xo + (2 : Int32))))])) rfl rfl (hb hby ds_41) _ ?_
          show Steps p.tables e below (T28.setTop (mkF m 42 #[.val (.ref xa), .val (.int xo), .val (.int xn), .val (.int (1 : Int32)), .val (.int (2 : Int32))] [(.int (53 : Int32)), (.int (atv cl (xo + (2 : Int32))))])) _
          exact k
        by_cases hq29 : (atv cl (xo + (2 : Int32))) = (53 : Int32)
        · have A31 : ∀ t, Steps p.tables e below (T28.setTop (mkF m 23 #[.val (.ref xa), .val (.int xo), .val (.int xn), .val (.int (1 : Int32)), .val (.int (3 : Int32))] [(.int (3 : Int32))])) t → Steps p.tables e below (s₁.setTop (entryFrame m #[(.ref xa), (.int xo), (.int xn)] 5)) t := by
            intro t k
            refine A30 _ ?_
            refine XS.icmpNo X28.here hx rfl (hb hby ds_42) rfl (teq hq29).2 ?_
            show Steps p.tables e below (T28.setTop (mkF m 45 #[.val (.ref xa), .val (.int xo), .val (.int xn), .val (.int (1 : Int32)), .val (.int (2 : Int32))] [])) _
            refine XS.iconst X28.here hx rfl (hb hby ds_45) ?_
            show Steps p.tables e below (T28.setTop (mkF m 46 #[.val (.ref xa), .val (.int xo), .val (.int xn), .val (.int (1 : Int32)), .val (.int (2 : Int32))] [(.int (1 : Int32))])) _
            refine XS.goto X28.here hx rfl (pc0 := 46) (pc' := 50) rfl (hb hby ds_46) (by decide) (by decide) ?_
            show Steps p.tables e below (T28.setTop (mkF m 50 #[.val (.ref xa), .val (.int xo), .val (.int xn), .val (.int (1 : Int32)), .val (.int (2 : Int32))] [(.int (1 : Int32))])) _
            refine XS.istoreN X28.here hx rfl (hb hby ds_50) rfl (l' := #[.val (.ref xa), .val (.int xo), .val (.int xn), .val (.int (1 : Int32)), .val (.int (2 : Int32))]) rfl ?_
            show Steps p.tables e below (T28.setTop (mkF m 51 #[.val (.ref xa), .val (.int xo), .val (.int xn), .val (.int (1 : Int32)), .val (.int (2 : Int32))] [])) _
            refine XS.iinc X28.here hx rfl (hb hby ds_51) rfl (l' := #[.val (.ref xa), .val (.int xo), .val (.int xn), .val (.int (1 : Int32)), .val (.int (3 : Int32))]) rfl ?_
            show Steps p.tables e below (T28.setTop (mkF m 54 #[.val (.ref xa), .val (.int xo), .val (.int xn), .val (.int (1 : Int32)), .val (.int (3 : Int32))] [])) _
            refine XS.goto X28.here hx rfl (pc0 := 54) (pc' := 17) rfl (hb hby ds_54) (by decide) (by decide) ?_
            show Steps p.tables e below (T28.setTop (mkF m 17 #[.val (.ref xa), .val (.int xo), .val (.int xn), .val (.int (1 : Int32)), .val (.int (3 : Int32))] [])) _
            refine XS.iloadN X28.here hx rfl (hb hby ds_17) rfl ?_
            show Steps p.tables e below (T28.setTop (mkF m 18 #[.val (.ref xa), .val (.int xo), .val (.int xn), .val (.int (1 : Int32)), .val (.int (3 : Int32))] [(.int (1 : Int32))])) _
            refine XS.ifNo X28.here hx rfl (hb hby ds_18) rfl ((if0 _ _).trans (feq (by decide : ¬ ((1 : Int32) = (0 : Int32)))).1) ?_
            show Steps p.tables e below (T28.setTop (mkF m 21 #[.val (.ref xa), .val (.int xo), .val (.int xn), .val (.int (1 : Int32)), .val (.int (3 : Int32))] [])) _
            refine XS.iload X28.here hx rfl (hb hby ds_21) rfl ?_
            show Steps p.tables e below (T28.setTop (mkF m 23 #[.val (.ref xa), .val (.int xo), .val (.int xn), .val (.int (1 : Int32)), .val (.int (3 : Int32))] [(.int (3 : Int32))])) _
            exact k
          obtain ⟨T32, X32, e32, st32⟩ := getS2 X28 hx hZ hown (host := "") (Or.inl (hw _ (List.mem_of_getElem? (i := 10) rfl))) Via.refl e28 S0 (g := (mkF m 23 #[.val (.ref xa), .val (.int xo), .val (.int xn), .val (.int (1 : Int32)), .val (.int (3 : Int32))] [(.int (3 : Int32))])) rfl (hb hby ds_23)
          have A33 : ∀ t, Steps p.tables e below (T32.setTop (mkF m 36 #[.val (.ref xa), .val (.int xo), .val (.int xn), .val (.int (1 : Int32)), .val (.int (3 : Int32))] [(.int (atv cl (xo + (3 : Int32))))])) t → Steps p.tables e below (s₁.setTop (entryFrame m #[(.ref xa), (.int xo), (.int xn)] 5)) t := by
            intro t k
            refine A31 _ ?_
            refine st32 _ ?_
            show Steps p.tables e below (T32.setTop (mkF m 26 #[.val (.ref xa), .val (.int xo), .val (.int xn), .val (.int (1 : Int32)), .val (.int (3 : Int32))] [(.ref va), (.int (3 : Int32))])) _
            refine X32.arraylength hx (by rw [e32]; exact TR.1.1) (State.isArrayOf_alike hZ.alike TR.1.2.1) (g := (mkF m 26 #[.val (.ref xa), .val (.int xo), .val (.int xn), .val (.int (1 : Int32)), .val (.int (3 : Int32))] [(.ref va), (.int (3 : Int32))])) rfl rfl (hb hby ds_26) _ ?_
            rw [len_of TR.2.1 TR.2.2.1]
            show Steps p.tables e below (T32.setTop (mkF m 27 #[.val (.ref xa), .val (.int xo), .val (.int xn), .val (.int (1 : Int32)), .val (.int (3 : Int32))] [(.int (6 : Int32)), (.int (3 : Int32))])) _
            refine XS.icmpNo X32.here hx rfl (hb hby ds_27) rfl (tlt (by decide : ((3 : Int32) < (6 : Int32)))).2.1 ?_
            show Steps p.tables e below (T32.setTop (mkF m 30 #[.val (.ref xa), .val (.int xo), .val (.int xn), .val (.int (1 : Int32)), .val (.int (3 : Int32))] [])) _
            refine XS.aloadN X32.here hx rfl (hb hby ds_30) rfl rfl ?_
            show Steps p.tables e below (T32.setTop (mkF m 31 #[.val (.ref xa), .val (.int xo), .val (.int xn), .val (.int (1 : Int32)), .val (.int (3 : Int32))] [(.ref xa)])) _
            refine XS.iloadN X32.here hx rfl (hb hby ds_31) rfl ?_
            show Steps p.tables e below (T32.setTop (mkF m 32 #[.val (.ref xa), .val (.int xo), .val (.int xn), .val (.int (1 : Int32)), .val (.int (3 : Int32))] [(.int xo), (.ref xa)])) _
            refine XS.iload X32.here hx rfl (hb hby ds_32) rfl ?_
            show Steps p.tables e below (T32.setTop (mkF m 34 #[.val (.ref xa), .val (.int xo), .val (.int xn), .val (.int (1 : Int32)), .val (.int (3 : Int32))] [(.int (3 : Int32)), (.int xo), (.ref xa)])) _
            refine XS.iadd X32.here hx rfl (hb hby ds_34) rfl ?_
            show Steps p.tables e below (T32.setTop (mkF m 35 #[.val (.ref xa), .val (.int xo), .val (.int xn), .val (.int (1 : Int32)), .val (.int (3 : Int32))] [(.int (xo + (3 : Int32))), (.ref xa)])) _
            refine X32.baloadBytes hx (j := (xo + (3 : Int32))) (v := (.int (atv cl (xo + (3 : Int32))))) (by rw [e32]; exact TB.1.1) (State.isArrayOf_alike hZ.alike TB.1.2.1) TB.1.2.2 hb3 (TB.2.2.2 _ hb3) (g := (mkF m 35 #[.val (.ref xa), .val (.int xo), .val (.int xn), .val (.int (1 : Int32)), .val (.int (3 : Int32))] [(.int (xo + (3 : Int32))), (.ref xa)])) rfl rfl (hb hby ds_35) _ ?_
            show Steps p.tables e below (T32.setTop (mkF m 36 #[.val (.ref xa), .val (.int xo), .val (.int xn), .val (.int (1 : Int32)), .val (.int (3 : Int32))] [(.int (atv cl (xo + (3 : Int32))))])) _
            exact k
          obtain ⟨T34, X34, e34, st34⟩ := getS2 X32 hx hZ hown (host := "") (Or.inl (hw _ (List.mem_of_getElem? (i := 10) rfl))) Via.refl e32 S0 (g := (mkF m 36 #[.val (.ref xa), .val (.int xo), .val (.int xn), .val (.int (1 : Int32)), .val (.int (3 : Int32))] [(.int (atv cl (xo + (3 : Int32))))])) rfl (hb hby ds_36)
          have A36 : ∀ t, Steps p.tables e below (T34.setTop (mkF m 42 #[.val (.ref xa), .val (.int xo), .val (.int xn), .val (.int (1 : Int32)), .val (.int (3 : Int32))] [(.int (62 : Int32)), (.int (atv cl (xo + (3 : Int32))))])) t → Steps p.tables e below (s₁.setTop (entryFrame m #[(.ref xa), (.int xo), (.int xn)] 5)) t := by
            intro t k
            refine A33 _ ?_
            refine st34 _ ?_
            show Steps p.tables e below (T34.setTop (mkF m 39 #[.val (.ref xa), .val (.int xo), .val (.int xn), .val (.int (1 : Int32)), .val (.int (3 : Int32))] [(.ref va), (.int (atv cl (xo + (3 : Int32))))])) _
            refine XS.iload X34.here hx rfl (hb hby ds_39) rfl ?_
            show Steps p.tables e below (T34.setTop (mkF m 41 #[.val (.ref xa), .val (.int xo), .val (.int xn), .val (.int (1 : Int32)), .val (.int (3 : Int32))] [(.int (3 : Int32)), (.ref va), (.int (atv cl (xo + (3 : Int32))))])) _
            refine X34.baloadBytes hx (j := (3 : Int32)) (v := (.int (62 : Int32))) (by rw [e34]; exact TR.1.1) (State.isArrayOf_alike hZ.alike TR.1.2.1) TR.1.2.2 hc3 hd3 (g := (mkF m 41 #[.val (.ref xa), .val (.int xo), .val (.int xn), .val (.int (1 : Int32)), .val (.int (3 : Int32))] [(.int (3 : Int32)), (.ref va), (.int (atv cl (xo + (3 : Int32))))])) rfl rfl (hb hby ds_41) _ ?_
            show Steps p.tables e below (T34.setTop (mkF m 42 #[.val (.ref xa), .val (.int xo), .val (.int xn), .val (.int (1 : Int32)), .val (.int (3 : Int32))] [(.int (62 : Int32)), (.int (atv cl (xo + (3 : Int32))))])) _
            exact k
          by_cases hq35 : (atv cl (xo + (3 : Int32))) = (62 : Int32)
          · have A37 : ∀ t, Steps p.tables e below (T34.setTop (mkF m 23 #[.val (.ref xa), .val (.int xo), .val (.int xn), .val (.int (1 : Int32)), .val (.int (4 : Int32))] [(.int (4 : Int32))])) t → Steps p.tables e below (s₁.setTop (entryFrame m #[(.ref xa), (.int xo), (.int xn)] 5)) t := by
              intro t k
              refine A36 _ ?_
              refine XS.icmpNo X34.here hx rfl (hb hby ds_42) rfl (teq hq35).2 ?_
              show Steps p.tables e below (T34.setTop (mkF m 45 #[.val (.ref xa), .val (.int xo), .val (.int xn), .val (.int (1 : Int32)), .val (.int (3 : Int32))] [])) _
              refine XS.iconst X34.here hx rfl (hb hby ds_45) ?_
              show Steps p.tables e below (T34.setTop (mkF m 46 #[.val (.ref xa), .val (.int xo), .val (.int xn), .val (.int (1 : Int32)), .val (.int (3 : Int32))] [(.int (1 : Int32))])) _
              refine XS.goto X34.here hx rfl (pc0 := 46) (pc' := 50) rfl (hb hby ds_46) (by decide) (by decide) ?_
              show Steps p.tables e below (T34.setTop (mkF m 50 #[.val (.ref xa), .val (.int xo), .val (.int xn), .val (.int (1 : Int32)), .val (.int (3 : Int32))] [(.int (1 : Int32))])) _
              refine XS.istoreN X34.here hx rfl (hb hby ds_50) rfl (l' := #[.val (.ref xa), .val (.int xo), .val (.int xn), .val (.int (1 : Int32)), .val (.int (3 : Int32))]) rfl ?_
              show Steps p.tables e below (T34.setTop (mkF m 51 #[.val (.ref xa), .val (.int xo), .val (.int xn), .val (.int (1 : Int32)), .val (.int (3 : Int32))] [])) _
              refine XS.iinc X34.here hx rfl (hb hby ds_51) rfl (l' := #[.val (.ref xa), .val (.int xo), .val (.int xn), .val (.int (1 : Int32)), .val (.int (4 : Int32))]) rfl ?_
              show Steps p.tables e below (T34.setTop (mkF m 54 #[.val (.ref xa), .val (.int xo), .val (.int xn), .val (.int (1 : Int32)), .val (.int (4 : Int32))] [])) _
              refine XS.goto X34.here hx rfl (pc0 := 54) (pc' := 17) rfl (hb hby ds_54) (by decide) (by decide) ?_
              show Steps p.tables e below (T34.setTop (mkF m 17 #[.val (.ref xa), .val (.int xo), .val (.int xn), .val (.int (1 : Int32)), .val (.int (4 : Int32))] [])) _
              refine XS.iloadN X34.here hx rfl (hb hby ds_17) rfl ?_
              show Steps p.tables e below (T34.setTop (mkF m 18 #[.val (.ref xa), .val (.int xo), .val (.int xn), .val (.int (1 : Int32)), .val (.int (4 : Int32))] [(.int (1 : Int32))])) _
              refine XS.ifNo X34.here hx rfl (hb hby ds_18) rfl ((if0 _ _).trans (feq (by decide : ¬ ((1 : Int32) = (0 : Int32)))).1) ?_
              show Steps p.tables e below (T34.setTop (mkF m 21 #[.val (.ref xa), .val (.int xo), .val (.int xn), .val (.int (1 : Int32)), .val (.int (4 : Int32))] [])) _
              refine XS.iload X34.here hx rfl (hb hby ds_21) rfl ?_
              show Steps p.tables e below (T34.setTop (mkF m 23 #[.val (.ref xa), .val (.int xo), .val (.int xn), .val (.int (1 : Int32)), .val (.int (4 : Int32))] [(.int (4 : Int32))])) _
              exact k
            obtain ⟨T38, X38, e38, st38⟩ := getS2 X34 hx hZ hown (host := "") (Or.inl (hw _ (List.mem_of_getElem? (i := 10) rfl))) Via.refl e34 S0 (g := (mkF m 23 #[.val (.ref xa), .val (.int xo), .val (.int xn), .val (.int (1 : Int32)), .val (.int (4 : Int32))] [(.int (4 : Int32))])) rfl (hb hby ds_23)
            have A39 : ∀ t, Steps p.tables e below (T38.setTop (mkF m 36 #[.val (.ref xa), .val (.int xo), .val (.int xn), .val (.int (1 : Int32)), .val (.int (4 : Int32))] [(.int (atv cl (xo + (4 : Int32))))])) t → Steps p.tables e below (s₁.setTop (entryFrame m #[(.ref xa), (.int xo), (.int xn)] 5)) t := by
              intro t k
              refine A37 _ ?_
              refine st38 _ ?_
              show Steps p.tables e below (T38.setTop (mkF m 26 #[.val (.ref xa), .val (.int xo), .val (.int xn), .val (.int (1 : Int32)), .val (.int (4 : Int32))] [(.ref va), (.int (4 : Int32))])) _
              refine X38.arraylength hx (by rw [e38]; exact TR.1.1) (State.isArrayOf_alike hZ.alike TR.1.2.1) (g := (mkF m 26 #[.val (.ref xa), .val (.int xo), .val (.int xn), .val (.int (1 : Int32)), .val (.int (4 : Int32))] [(.ref va), (.int (4 : Int32))])) rfl rfl (hb hby ds_26) _ ?_
              rw [len_of TR.2.1 TR.2.2.1]
              show Steps p.tables e below (T38.setTop (mkF m 27 #[.val (.ref xa), .val (.int xo), .val (.int xn), .val (.int (1 : Int32)), .val (.int (4 : Int32))] [(.int (6 : Int32)), (.int (4 : Int32))])) _
              refine XS.icmpNo X38.here hx rfl (hb hby ds_27) rfl (tlt (by decide : ((4 : Int32) < (6 : Int32)))).2.1 ?_
              show Steps p.tables e below (T38.setTop (mkF m 30 #[.val (.ref xa), .val (.int xo), .val (.int xn), .val (.int (1 : Int32)), .val (.int (4 : Int32))] [])) _
              refine XS.aloadN X38.here hx rfl (hb hby ds_30) rfl rfl ?_
              show Steps p.tables e below (T38.setTop (mkF m 31 #[.val (.ref xa), .val (.int xo), .val (.int xn), .val (.int (1 : Int32)), .val (.int (4 : Int32))] [(.ref xa)])) _
              refine XS.iloadN X38.here hx rfl (hb hby ds_31) rfl ?_
              show Steps p.tables e below (T38.setTop (mkF m 32 #[.val (.ref xa), .val (.int xo), .val (.int xn), .val (.int (1 : Int32)), .val (.int (4 : Int32))] [(.int xo), (.ref xa)])) _
              refine XS.iload X38.here hx rfl (hb hby ds_32) rfl ?_
              show Steps p.tables e below (T38.setTop (mkF m 34 #[.val (.ref xa), .val (.int xo), .val (.int xn), .val (.int (1 : Int32)), .val (.int (4 : Int32))] [(.int (4 : Int32)), (.int xo), (.ref xa)])) _
              refine XS.iadd X38.here hx rfl (hb hby ds_34) rfl ?_
              show Steps p.tables e below (T38.setTop (mkF m 35 #[.val (.ref xa), .val (.int xo), .val (.int xn), .val (.int (1 : Int32)), .val (.int (4 : Int32))] [(.int (xo + (4 : Int32))), (.ref xa)])) _
              refine X38.baloadBytes hx (j := (xo + (4 : Int32))) (v := (.int (atv cl (xo + (4 : Int32))))) (by rw [e38]; exact TB.1.1) (State.isArrayOf_alike hZ.alike TB.1.2.1) TB.1.2.2 hb4 (TB.2.2.2 _ hb4) (g := (mkF m 35 #[.val (.ref xa), .val (.int xo), .val (.int xn), .val (.int (1 : Int32)), .val (.int (4 : Int32))] [(.int (xo + (4 : Int32))), (.ref xa)])) rfl rfl (hb hby ds_35) _ ?_
              show Steps p.tables e below (T38.setTop (mkF m 36 #[.val (.ref xa), .val (.int xo), .val (.int xn), .val (.int (1 : Int32)), .val (.int (4 : Int32))] [(.int (atv cl (xo + (4 : Int32))))])) _
              exact k
            obtain ⟨T40, X40, e40, st40⟩ := getS2 X38 hx hZ hown (host := "") (Or.inl (hw _ (List.mem_of_getElem? (i := 10) rfl))) Via.refl e38 S0 (g := (mkF m 36 #[.val (.ref xa), .val (.int xo), .val (.int xn), .val (.int (1 : Int32)), .val (.int (4 : Int32))] [(.int (atv cl (xo + (4 : Int32))))])) rfl (hb hby ds_36)
            have A42 : ∀ t, Steps p.tables e below (T40.setTop (mkF m 42 #[.val (.ref xa), .val (.int xo), .val (.int xn), .val (.int (1 : Int32)), .val (.int (4 : Int32))] [(.int (49 : Int32)), (.int (atv cl (xo + (4 : Int32))))])) t → Steps p.tables e below (s₁.setTop (entryFrame m #[(.ref xa), (.int xo), (.int xn)] 5)) t := by
              intro t k
              refine A39 _ ?_
              refine st40 _ ?_
              show Steps p.tables e below (T40.setTop (mkF m 39 #[.val (.ref xa), .val (.int xo), .val (.int xn), .val (.int (1 : Int32)), .val (.int (4 : Int32))] [(.ref va), (.int (atv cl (xo + (4 : Int32))))])) _
              refine XS.iload X40.here hx rfl (hb hby ds_39) rfl ?_
              show Steps p.tables e below (T40.setTop (mkF m 41 #[.val (.ref xa), .val (.int xo), .val (.int xn), .val (.int (1 : Int32)), .val (.int (4 : Int32))] [(.int (4 : Int32)), (.ref va), (.int (atv cl (xo + (4 : Int32))))])) _
              refine X40.baloadBytes hx (j := (4 : Int32)) (v := (.int (49 : Int32))) (by rw [e40]; exact TR.1.1) (State.isArrayOf_alike hZ.alike TR.1.2.1) TR.1.2.2 hc4 hd4 (g := (mkF m 41 #[.val (.ref xa), .val (.int xo), .val (.int xn), .val (.int (1 : Int32)), .val (.int (4 : Int32))] [(.int (4 : Int32)), (.ref va), (.int (atv cl (xo + (4 : Int32))))])) rfl rfl (hb hby ds_41) _ ?_
              show Steps p.tables e below (T40.setTop (mkF m 42 #[.val (.ref xa), .val (.int xo), .val (.int xn), .val (.int (1 : Int32)), .val (.int (4 : Int32))] [(.int (49 : Int32)), (.int (atv cl (xo + (4 : Int32))))])) _
              exact k
            by_cases hq41 : (atv cl (xo + (4 : Int32))) = (49 : Int32)
            · have A43 : ∀ t, Steps p.tables e below (T40.setTop (mkF m 23 #[.val (.ref xa), .val (.int xo), .val (.int xn), .val (.int (1 : Int32)), .val (.int (5 : Int32))] [(.int (5 : Int32))])) t → Steps p.tables e below (s₁.setTop (entryFrame m #[(.ref xa), (.int xo), (.int xn)] 5)) t := by
                intro t k
                refine A42 _ ?_
                refine XS.icmpNo X40.here hx rfl (hb hby ds_42) rfl (teq hq41).2 ?_
                show Steps p.tables e below (T40.setTop (mkF m 45 #[.val (.ref xa), .val (.int xo), .val (.int xn), .val (.int (1 : Int32)), .val (.int (4 : Int32))] [])) _
                refine XS.iconst X40.here hx rfl (hb hby ds_45) ?_
                show Steps p.tables e below (T40.setTop (mkF m 46 #[.val (.ref xa), .val (.int xo), .val (.int xn), .val (.int (1 : Int32)), .val (.int (4 : Int32))] [(.int (1 : Int32))])) _
                refine XS.goto X40.here hx rfl (pc0 := 46) (pc' := 50) rfl (hb hby ds_46) (by decide) (by decide) ?_
                show Steps p.tables e below (T40.setTop (mkF m 50 #[.val (.ref xa), .val (.int xo), .val (.int xn), .val (.int (1 : Int32)), .val (.int (4 : Int32))] [(.int (1 : Int32))])) _
                refine XS.istoreN X40.here hx rfl (hb hby ds_50) rfl (l' := #[.val (.ref xa), .val (.int xo), .val (.int xn), .val (.int (1 : Int32)), .val (.int (4 : Int32))]) rfl ?_
                show Steps p.tables e below (T40.setTop (mkF m 51 #[.val (.ref xa), .val (.int xo), .val (.int xn), .val (.int (1 : Int32)), .val (.int (4 : Int32))] [])) _
                refine XS.iinc X40.here hx rfl (hb hby ds_51) rfl (l' := #[.val (.ref xa), .val (.int xo), .val (.int xn), .val (.int (1 : Int32)), .val (.int (5 : Int32))]) rfl ?_
                show Steps p.tables e below (T40.setTop (mkF m 54 #[.val (.ref xa), .val (.int xo), .val (.int xn), .val (.int (1 : Int32)), .val (.int (5 : Int32))] [])) _
                refine XS.goto X40.here hx rfl (pc0 := 54) (pc' := 17) rfl (hb hby ds_54) (by decide) (by decide) ?_
                show Steps p.tables e below (T40.setTop (mkF m 17 #[.val (.ref xa), .val (.int xo), .val (.int xn), .val (.int (1 : Int32)), .val (.int (5 : Int32))] [])) _
                refine XS.iloadN X40.here hx rfl (hb hby ds_17) rfl ?_
                show Steps p.tables e below (T40.setTop (mkF m 18 #[.val (.ref xa), .val (.int xo), .val (.int xn), .val (.int (1 : Int32)), .val (.int (5 : Int32))] [(.int (1 : Int32))])) _
                refine XS.ifNo X40.here hx rfl (hb hby ds_18) rfl ((if0 _ _).trans (feq (by decide : ¬ ((1 : Int32) = (0 : Int32)))).1) ?_
                show Steps p.tables e below (T40.setTop (mkF m 21 #[.val (.ref xa), .val (.int xo), .val (.int xn), .val (.int (1 : Int32)), .val (.int (5 : Int32))] [])) _
                refine XS.iload X40.here hx rfl (hb hby ds_21) rfl ?_
                show Steps p.tables e below (T40.setTop (mkF m 23 #[.val (.ref xa), .val (.int xo), .val (.int xn), .val (.int (1 : Int32)), .val (.int (5 : Int32))] [(.int (5 : Int32))])) _
                exact k
              obtain ⟨T44, X44, e44, st44⟩ := getS2 X40 hx hZ hown (host := "") (Or.inl (hw _ (List.mem_of_getElem? (i := 10) rfl))) Via.refl e40 S0 (g := (mkF m 23 #[.val (.ref xa), .val (.int xo), .val (.int xn), .val (.int (1 : Int32)), .val (.int (5 : Int32))] [(.int (5 : Int32))])) rfl (hb hby ds_23)
              have A45 : ∀ t, Steps p.tables e below (T44.setTop (mkF m 36 #[.val (.ref xa), .val (.int xo), .val (.int xn), .val (.int (1 : Int32)), .val (.int (5 : Int32))] [(.int (atv cl (xo + (5 : Int32))))])) t → Steps p.tables e below (s₁.setTop (entryFrame m #[(.ref xa), (.int xo), (.int xn)] 5)) t := by
                intro t k
                refine A43 _ ?_
                refine st44 _ ?_
                show Steps p.tables e below (T44.setTop (mkF m 26 #[.val (.ref xa), .val (.int xo), .val (.int xn), .val (.int (1 : Int32)), .val (.int (5 : Int32))] [(.ref va), (.int (5 : Int32))])) _
                refine X44.arraylength hx (by rw [e44]; exact TR.1.1) (State.isArrayOf_alike hZ.alike TR.1.2.1) (g := (mkF m 26 #[.val (.ref xa), .val (.int xo), .val (.int xn), .val (.int (1 : Int32)), .val (.int (5 : Int32))] [(.ref va), (.int (5 : Int32))])) rfl rfl (hb hby ds_26) _ ?_
                rw [len_of TR.2.1 TR.2.2.1]
                show Steps p.tables e below (T44.setTop (mkF m 27 #[.val (.ref xa), .val (.int xo), .val (.int xn), .val (.int (1 : Int32)), .val (.int (5 : Int32))] [(.int (6 : Int32)), (.int (5 : Int32))])) _
                refine XS.icmpNo X44.here hx rfl (hb hby ds_27) rfl (tlt (by decide : ((5 : Int32) < (6 : Int32)))).2.1 ?_
                show Steps p.tables e below (T44.setTop (mkF m 30 #[.val (.ref xa), .val (.int xo), .val (.int xn), .val (.int (1 : Int32)), .val (.int (5 : Int32))] [])) _
                refine XS.aloadN X44.here hx rfl (hb hby ds_30) rfl rfl ?_
                show Steps p.tables e below (T44.setTop (mkF m 31 #[.val (.ref xa), .val (.int xo), .val (.int xn), .val (.int (1 : Int32)), .val (.int (5 : Int32))] [(.ref xa)])) _
                refine XS.iloadN X44.here hx rfl (hb hby ds_31) rfl ?_
                show Steps p.tables e below (T44.setTop (mkF m 32 #[.val (.ref xa), .val (.int xo), .val (.int xn), .val (.int (1 : Int32)), .val (.int (5 : Int32))] [(.int xo), (.ref xa)])) _
                refine XS.iload X44.here hx rfl (hb hby ds_32) rfl ?_
                show Steps p.tables e below (T44.setTop (mkF m 34 #[.val (.ref xa), .val (.int xo), .val (.int xn), .val (.int (1 : Int32)), .val (.int (5 : Int32))] [(.int (5 : Int32)), (.int xo), (.ref xa)])) _
                refine XS.iadd X44.here hx rfl (hb hby ds_34) rfl ?_
                show Steps p.tables e below (T44.setTop (mkF m 35 #[.val (.ref xa), .val (.int xo), .val (.int xn), .val (.int (1 : Int32)), .val (.int (5 : Int32))] [(.int (xo + (5 : Int32))), (.ref xa)])) _
                refine X44.baloadBytes hx (j := (xo + (5 : Int32))) (v := (.int (atv cl (xo + (5 : Int32))))) (by rw [e44]; exact TB.1.1) (State.isArrayOf_alike hZ.alike TB.1.2.1) TB.1.2.2 hb5 (TB.2.2.2 _ hb5) (g := (mkF m 35 #[.val (.ref xa), .val (.int xo), .val (.int xn), .val (.int (1 : Int32)), .val (.int (5 : Int32))] [(.int (xo + (5 : Int32))), (.ref xa)])) rfl rfl (hb hby ds_35) _ ?_
                show Steps p.tables e below (T44.setTop (mkF m 36 #[.val (.ref xa), .val (.int xo), .val (.int xn), .val (.int (1 : Int32)), .val (.int (5 : Int32))] [(.int (atv cl (xo + (5 : Int32))))])) _
                exact k
              obtain ⟨T46, X46, e46, st46⟩ := getS2 X44 hx hZ hown (host := "") (Or.inl (hw _ (List.mem_of_getElem? (i := 10) rfl))) Via.refl e44 S0 (g := (mkF m 36 #[.val (.ref xa), .val (.int xo), .val (.int xn), .val (.int (1 : Int32)), .val (.int (5 : Int32))] [(.int (atv cl (xo + (5 : Int32))))])) rfl (hb hby ds_36)
              have A48 : ∀ t, Steps p.tables e below (T46.setTop (mkF m 42 #[.val (.ref xa), .val (.int xo), .val (.int xn), .val (.int (1 : Int32)), .val (.int (5 : Int32))] [(.int (32 : Int32)), (.int (atv cl (xo + (5 : Int32))))])) t → Steps p.tables e below (s₁.setTop (entryFrame m #[(.ref xa), (.int xo), (.int xn)] 5)) t := by
                intro t k
                refine A45 _ ?_
                refine st46 _ ?_
                show Steps p.tables e below (T46.setTop (mkF m 39 #[.val (.ref xa), .val (.int xo), .val (.int xn), .val (.int (1 : Int32)), .val (.int (5 : Int32))] [(.ref va), (.int (atv cl (xo + (5 : Int32))))])) _
                refine XS.iload X46.here hx rfl (hb hby ds_39) rfl ?_
                show Steps p.tables e below (T46.setTop (mkF m 41 #[.val (.ref xa), .val (.int xo), .val (.int xn), .val (.int (1 : Int32)), .val (.int (5 : Int32))] [(.int (5 : Int32)), (.ref va), (.int (atv cl (xo + (5 : Int32))))])) _
                refine X46.baloadBytes hx (j := (5 : Int32)) (v := (.int (32 : Int32))) (by rw [e46]; exact TR.1.1) (State.isArrayOf_alike hZ.alike TR.1.2.1) TR.1.2.2 hc5 hd5 (g := (mkF m 41 #[.val (.ref xa), .val (.int xo), .val (.int xn), .val (.int (1 : Int32)), .val (.int (5 : Int32))] [(.int (5 : Int32)), (.ref va), (.int (atv cl (xo + (5 : Int32))))])) rfl rfl (hb hby ds_41) _ ?_
                show Steps p.tables e below (T46.setTop (mkF m 42 #[.val (.ref xa), .val (.int xo), .val (.int xn), .val (.int (1 : Int32)), .val (.int (5 : Int32))] [(.int (32 : Int32)), (.int (atv cl (xo + (5 : Int32))))])) _
                exact k
              by_cases hq47 : (atv cl (xo + (5 : Int32))) = (32 : Int32)
              · have A49 : ∀ t, Steps p.tables e below (T46.setTop (mkF m 23 #[.val (.ref xa), .val (.int xo), .val (.int xn), .val (.int (1 : Int32)), .val (.int (6 : Int32))] [(.int (6 : Int32))])) t → Steps p.tables e below (s₁.setTop (entryFrame m #[(.ref xa), (.int xo), (.int xn)] 5)) t := by
                  intro t k
                  refine A48 _ ?_
                  refine XS.icmpNo X46.here hx rfl (hb hby ds_42) rfl (teq hq47).2 ?_
                  show Steps p.tables e below (T46.setTop (mkF m 45 #[.val (.ref xa), .val (.int xo), .val (.int xn), .val (.int (1 : Int32)), .val (.int (5 : Int32))] [])) _
                  refine XS.iconst X46.here hx rfl (hb hby ds_45) ?_
                  show Steps p.tables e below (T46.setTop (mkF m 46 #[.val (.ref xa), .val (.int xo), .val (.int xn), .val (.int (1 : Int32)), .val (.int (5 : Int32))] [(.int (1 : Int32))])) _
                  refine XS.goto X46.here hx rfl (pc0 := 46) (pc' := 50) rfl (hb hby ds_46) (by decide) (by decide) ?_
                  show Steps p.tables e below (T46.setTop (mkF m 50 #[.val (.ref xa), .val (.int xo), .val (.int xn), .val (.int (1 : Int32)), .val (.int (5 : Int32))] [(.int (1 : Int32))])) _
                  refine XS.istoreN X46.here hx rfl (hb hby ds_50) rfl (l' := #[.val (.ref xa), .val (.int xo), .val (.int xn), .val (.int (1 : Int32)), .val (.int (5 : Int32))]) rfl ?_
                  show Steps p.tables e below (T46.setTop (mkF m 51 #[.val (.ref xa), .val (.int xo), .val (.int xn), .val (.int (1 : Int32)), .val (.int (5 : Int32))] [])) _
                  refine XS.iinc X46.here hx rfl (hb hby ds_51) rfl (l' := #[.val (.ref xa), .val (.int xo), .val (.int xn), .val (.int (1 : Int32)), .val (.int (6 : Int32))]) rfl ?_
                  show Steps p.tables e below (T46.setTop (mkF m 54 #[.val (.ref xa), .val (.int xo), .val (.int xn), .val (.int (1 : Int32)), .val (.int (6 : Int32))] [])) _
                  refine XS.goto X46.here hx rfl (pc0 := 54) (pc' := 17) rfl (hb hby ds_54) (by decide) (by decide) ?_
                  show Steps p.tables e below (T46.setTop (mkF m 17 #[.val (.ref xa), .val (.int xo), .val (.int xn), .val (.int (1 : Int32)), .val (.int (6 : Int32))] [])) _
                  refine XS.iloadN X46.here hx rfl (hb hby ds_17) rfl ?_
                  show Steps p.tables e below (T46.setTop (mkF m 18 #[.val (.ref xa), .val (.int xo), .val (.int xn), .val (.int (1 : Int32)), .val (.int (6 : Int32))] [(.int (1 : Int32))])) _
                  refine XS.ifNo X46.here hx rfl (hb hby ds_18) rfl ((if0 _ _).trans (feq (by decide : ¬ ((1 : Int32) = (0 : Int32)))).1) ?_
                  show Steps p.tables e below (T46.setTop (mkF m 21 #[.val (.ref xa), .val (.int xo), .val (.int xn), .val (.int (1 : Int32)), .val (.int (6 : Int32))] [])) _
                  refine XS.iload X46.here hx rfl (hb hby ds_21) rfl ?_
                  show Steps p.tables e below (T46.setTop (mkF m 23 #[.val (.ref xa), .val (.int xo), .val (.int xn), .val (.int (1 : Int32)), .val (.int (6 : Int32))] [(.int (6 : Int32))])) _
                  exact k
                obtain ⟨T50, X50, e50, st50⟩ := getS2 X46 hx hZ hown (host := "") (Or.inl (hw _ (List.mem_of_getElem? (i := 10) rfl))) Via.refl e46 S0 (g := (mkF m 23 #[.val (.ref xa), .val (.int xo), .val (.int xn), .val (.int (1 : Int32)), .val (.int (6 : Int32))] [(.int (6 : Int32))])) rfl (hb hby ds_23)
                have A51 : ∀ t, Steps p.tables e below (T50.setTop (mkF m 58 #[.val (.ref xa), .val (.int xo), .val (.int xn), .val (.int (1 : Int32)), .val (.int (6 : Int32))] [(.int (1 : Int32))])) t → Steps p.tables e below (s₁.setTop (entryFrame m #[(.ref xa), (.int xo), (.int xn)] 5)) t := by
                  intro t k
                  refine A49 _ ?_
                  refine st50 _ ?_
                  show Steps p.tables e below (T50.setTop (mkF m 26 #[.val (.ref xa), .val (.int xo), .val (.int xn), .val (.int (1 : Int32)), .val (.int (6 : Int32))] [(.ref va), (.int (6 : Int32))])) _
                  refine X50.arraylength hx (by rw [e50]; exact TR.1.1) (State.isArrayOf_alike hZ.alike TR.1.2.1) (g := (mkF m 26 #[.val (.ref xa), .val (.int xo), .val (.int xn), .val (.int (1 : Int32)), .val (.int (6 : Int32))] [(.ref va), (.int (6 : Int32))])) rfl rfl (hb hby ds_26) _ ?_
                  rw [len_of TR.2.1 TR.2.2.1]
                  show Steps p.tables e below (T50.setTop (mkF m 27 #[.val (.ref xa), .val (.int xo), .val (.int xn), .val (.int (1 : Int32)), .val (.int (6 : Int32))] [(.int (6 : Int32)), (.int (6 : Int32))])) _
                  refine XS.icmpYes X50.here hx rfl (pc0 := 27) (pc' := 57) rfl (hb hby ds_27) rfl (flt (by decide : ¬ ((6 : Int32) < (6 : Int32)))).2.1 (by decide) (by decide) ?_
                  show Steps p.tables e below (T50.setTop (mkF m 57 #[.val (.ref xa), .val (.int xo), .val (.int xn), .val (.int (1 : Int32)), .val (.int (6 : Int32))] [])) _
                  refine XS.iloadN X50.here hx rfl (hb hby ds_57) rfl ?_
                  show Steps p.tables e below (T50.setTop (mkF m 58 #[.val (.ref xa), .val (.int xo), .val (.int xn), .val (.int (1 : Int32)), .val (.int (6 : Int32))] [(.int (1 : Int32))])) _
                  exact k
                obtain ⟨fs, hr, hrun, hended, hW, hsame⟩ := X50.leave (v := some (.int (1 : Int32))) (fun h => by rw [Bd.returns] at h; cases h)
                refine ⟨_, _, A51 _ ?_, hrun, hended, _, _, rfl, ?_, ⟨_, rfl⟩, hW, hsame.mono (by decide) (by decide)⟩
                · exact retN X50 hx (t := .boolean) Bd.returns (by simp) (hb hby ds_58) hr
                · show own_Qs Z xo xn cl h0 n0 _ T50.heap _
                  rw [e50]
                  exact ⟨(by unfold own_sr; rw [if_neg hq10, if_pos hq17, if_pos hq23, if_pos hq29, if_pos hq35, if_pos hq41, if_pos hq47]), N0, rfl⟩
              · have A52 : ∀ t, Steps p.tables e below (T46.setTop (mkF m 58 #[.val (.ref xa), .val (.int xo), .val (.int xn), .val (.int (0 : Int32)), .val (.int (6 : Int32))] [(.int (0 : Int32))])) t → Steps p.tables e below (s₁.setTop (entryFrame m #[(.ref xa), (.int xo), (.int xn)] 5)) t := by
                  intro t k
                  refine A48 _ ?_
                  refine XS.icmpYes X46.here hx rfl (pc0 := 42) (pc' := 49) rfl (hb hby ds_42) rfl (feq hq47).2 (by decide) (by decide) ?_
                  show Steps p.tables e below (T46.setTop (mkF m 49 #[.val (.ref xa), .val (.int xo), .val (.int xn), .val (.int (1 : Int32)), .val (.int (5 : Int32))] [])) _
                  refine XS.iconst X46.here hx rfl (hb hby ds_49) ?_
                  show Steps p.tables e below (T46.setTop (mkF m 50 #[.val (.ref xa), .val (.int xo), .val (.int xn), .val (.int (1 : Int32)), .val (.int (5 : Int32))] [(.int (0 : Int32))])) _
                  refine XS.istoreN X46.here hx rfl (hb hby ds_50) rfl (l' := #[.val (.ref xa), .val (.int xo), .val (.int xn), .val (.int (0 : Int32)), .val (.int (5 : Int32))]) rfl ?_
                  show Steps p.tables e below (T46.setTop (mkF m 51 #[.val (.ref xa), .val (.int xo), .val (.int xn), .val (.int (0 : Int32)), .val (.int (5 : Int32))] [])) _
                  refine XS.iinc X46.here hx rfl (hb hby ds_51) rfl (l' := #[.val (.ref xa), .val (.int xo), .val (.int xn), .val (.int (0 : Int32)), .val (.int (6 : Int32))]) rfl ?_
                  show Steps p.tables e below (T46.setTop (mkF m 54 #[.val (.ref xa), .val (.int xo), .val (.int xn), .val (.int (0 : Int32)), .val (.int (6 : Int32))] [])) _
                  refine XS.goto X46.here hx rfl (pc0 := 54) (pc' := 17) rfl (hb hby ds_54) (by decide) (by decide) ?_
                  show Steps p.tables e below (T46.setTop (mkF m 17 #[.val (.ref xa), .val (.int xo), .val (.int xn), .val (.int (0 : Int32)), .val (.int (6 : Int32))] [])) _
                  refine XS.iloadN X46.here hx rfl (hb hby ds_17) rfl ?_
                  show Steps p.tables e below (T46.setTop (mkF m 18 #[.val (.ref xa), .val (.int xo), .val (.int xn), .val (.int (0 : Int32)), .val (.int (6 : Int32))] [(.int (0 : Int32))])) _
                  refine XS.ifYes X46.here hx rfl (pc0 := 18) (pc' := 57) rfl (hb hby ds_18) rfl ((if0 _ _).trans (teq (by decide : ((0 : Int32) = (0 : Int32)))).1) (by decide) (by decide) ?_
                  show Steps p.tables e below (T46.setTop (mkF m 57 #[.val (.ref xa), .val (.int xo), .val (.int xn), .val (.int (0 : Int32)), .val (.int (6 : Int32))] [])) _
                  refine XS.iloadN X46.here hx rfl (hb hby ds_57) rfl ?_
                  show Steps p.tables e below (T46.setTop (mkF m 58 #[.val (.ref xa), .val (.int xo), .val (.int xn), .val (.int (0 : Int32)), .val (.int (6 : Int32))] [(.int (0 : Int32))])) _
                  exact k
                obtain ⟨fs, hr, hrun, hended, hW, hsame⟩ := X46.leave (v := some (.int (0 : Int32))) (fun h => by rw [Bd.returns] at h; cases h)
                refine ⟨_, _, A52 _ ?_, hrun, hended, _, _, rfl, ?_, ⟨_, rfl⟩, hW, hsame.mono (by decide) (by decide)⟩
                · exact retN X46 hx (t := .boolean) Bd.returns (by simp) (hb hby ds_58) hr
                · show own_Qs Z xo xn cl h0 n0 _ T46.heap _
                  rw [e46]
                  exact ⟨(by unfold own_sr; rw [if_neg hq10, if_pos hq17, if_pos hq23, if_pos hq29, if_pos hq35, if_pos hq41, if_neg hq47]), N0, rfl⟩
            · have A53 : ∀ t, Steps p.tables e below (T40.setTop (mkF m 58 #[.val (.ref xa), .val (.int xo), .val (.int xn), .val (.int (0 : Int32)), .val (.int (5 : Int32))] [(.int (0 : Int32))])) t → Steps p.tables e below (s₁.setTop (entryFrame m #[(.ref xa), (.int xo), (.int xn)] 5)) t := by
                intro t k
                refine A42 _ ?_
                refine XS.icmpYes X40.here hx rfl (pc0 := 42) (pc' := 49) rfl (hb hby ds_42) rfl (feq hq41).2 (by decide) (by decide) ?_
                show Steps p.tables e below (T40.setTop (mkF m 49 #[.val (.ref xa), .val (.int xo), .val (.int xn), .val (.int (1 : Int32)), .val (.int (4 : Int32))] [])) _
                refine XS.iconst X40.here hx rfl (hb hby ds_49) ?_
                show Steps p.tables e below (T40.setTop (mkF m 50 #[.val (.ref xa), .val (.int xo), .val (.int xn), .val (.int (1 : Int32)), .val (.int (4 : Int32))] [(.int (0 : Int32))])) _
                refine XS.istoreN X40.here hx rfl (hb hby ds_50) rfl (l' := #[.val (.ref xa), .val (.int xo), .val (.int xn), .val (.int (0 : Int32)), .val (.int (4 : Int32))]) rfl ?_
                show Steps p.tables e below (T40.setTop (mkF m 51 #[.val (.ref xa), .val (.int xo), .val (.int xn), .val (.int (0 : Int32)), .val (.int (4 : Int32))] [])) _
                refine XS.iinc X40.here hx rfl (hb hby ds_51) rfl (l' := #[.val (.ref xa), .val (.int xo), .val (.int xn), .val (.int (0 : Int32)), .val (.int (5 : Int32))]) rfl ?_
                show Steps p.tables e below (T40.setTop (mkF m 54 #[.val (.ref xa), .val (.int xo), .val (.int xn), .val (.int (0 : Int32)), .val (.int (5 : Int32))] [])) _
                refine XS.goto X40.here hx rfl (pc0 := 54) (pc' := 17) rfl (hb hby ds_54) (by decide) (by decide) ?_
                show Steps p.tables e below (T40.setTop (mkF m 17 #[.val (.ref xa), .val (.int xo), .val (.int xn), .val (.int (0 : Int32)), .val (.int (5 : Int32))] [])) _
                refine XS.iloadN X40.here hx rfl (hb hby ds_17) rfl ?_
                show Steps p.tables e below (T40.setTop (mkF m 18 #[.val (.ref xa), .val (.int xo), .val (.int xn), .val (.int (0 : Int32)), .val (.int (5 : Int32))] [(.int (0 : Int32))])) _
                refine XS.ifYes X40.here hx rfl (pc0 := 18) (pc' := 57) rfl (hb hby ds_18) rfl ((if0 _ _).trans (teq (by decide : ((0 : Int32) = (0 : Int32)))).1) (by decide) (by decide) ?_
                show Steps p.tables e below (T40.setTop (mkF m 57 #[.val (.ref xa), .val (.int xo), .val (.int xn), .val (.int (0 : Int32)), .val (.int (5 : Int32))] [])) _
                refine XS.iloadN X40.here hx rfl (hb hby ds_57) rfl ?_
                show Steps p.tables e below (T40.setTop (mkF m 58 #[.val (.ref xa), .val (.int xo), .val (.int xn), .val (.int (0 : Int32)), .val (.int (5 : Int32))] [(.int (0 : Int32))])) _
                exact k
              obtain ⟨fs, hr, hrun, hended, hW, hsame⟩ := X40.leave (v := some (.int (0 : Int32))) (fun h => by rw [Bd.returns] at h; cases h)
              refine ⟨_, _, A53 _ ?_, hrun, hended, _, _, rfl, ?_, ⟨_, rfl⟩, hW, hsame.mono (by decide) (by decide)⟩
              · exact retN X40 hx (t := .boolean) Bd.returns (by simp) (hb hby ds_58) hr
              · show own_Qs Z xo xn cl h0 n0 _ T40.heap _
                rw [e40]
                exact ⟨(by unfold own_sr; rw [if_neg hq10, if_pos hq17, if_pos hq23, if_pos hq29, if_pos hq35, if_neg hq41]), N0, rfl⟩
          · have A54 : ∀ t, Steps p.tables e below (T34.setTop (mkF m 58 #[.val (.ref xa), .val (.int xo), .val (.int xn), .val (.int (0 : Int32)), .val (.int (4 : Int32))] [(.int (0 : Int32))])) t → Steps p.tables e below (s₁.setTop (entryFrame m #[(.ref xa), (.int xo), (.int xn)] 5)) t := by
              intro t k
              refine A36 _ ?_
              refine XS.icmpYes X34.here hx rfl (pc0 := 42) (pc' := 49) rfl (hb hby ds_42) rfl (feq hq35).2 (by decide) (by decide) ?_
              show Steps p.tables e below (T34.setTop (mkF m 49 #[.val (.ref xa), .val (.int xo), .val (.int xn), .val (.int (1 : Int32)), .val (.int (3 : Int32))] [])) _
              refine XS.iconst X34.here hx rfl (hb hby ds_49) ?_
              show Steps p.tables e below (T34.setTop (mkF m 50 #[.val (.ref xa), .val (.int xo), .val (.int xn), .val (.int (1 : Int32)), .val (.int (3 : Int32))] [(.int (0 : Int32))])) _
              refine XS.istoreN X34.here hx rfl (hb hby ds_50) rfl (l' := #[.val (.ref xa), .val (.int xo), .val (.int xn), .val (.int (0 : Int32)), .val (.int (3 : Int32))]) rfl ?_
              show Steps p.tables e below (T34.setTop (mkF m 51 #[.val (.ref xa), .val (.int xo), .val (.int xn), .val (.int (0 : Int32)), .val (.int (3 : Int32))] [])) _
              refine XS.iinc X34.here hx rfl (hb hby ds_51) rfl (l' := #[.val (.ref xa), .val (.int xo), .val (.int xn), .val (.int (0 : Int32)), .val (.int (4 : Int32))]) rfl ?_
              show Steps p.tables e below (T34.setTop (mkF m 54 #[.val (.ref xa), .val (.int xo), .val (.int xn), .val (.int (0 : Int32)), .val (.int (4 : Int32))] [])) _
              refine XS.goto X34.here hx rfl (pc0 := 54) (pc' := 17) rfl (hb hby ds_54) (by decide) (by decide) ?_
              show Steps p.tables e below (T34.setTop (mkF m 17 #[.val (.ref xa), .val (.int xo), .val (.int xn), .val (.int (0 : Int32)), .val (.int (4 : Int32))] [])) _
              refine XS.iloadN X34.here hx rfl (hb hby ds_17) rfl ?_
              show Steps p.tables e below (T34.setTop (mkF m 18 #[.val (.ref xa), .val (.int xo), .val (.int xn), .val (.int (0 : Int32)), .val (.int (4 : Int32))] [(.int (0 : Int32))])) _
              refine XS.ifYes X34.here hx rfl (pc0 := 18) (pc' := 57) rfl (hb hby ds_18) rfl ((if0 _ _).trans (teq (by decide : ((0 : Int32) = (0 : Int32)))).1) (by decide) (by decide) ?_
              show Steps p.tables e below (T34.setTop (mkF m 57 #[.val (.ref xa), .val (.int xo), .val (.int xn), .val (.int (0 : Int32)), .val (.int (4 : Int32))] [])) _
              refine XS.iloadN X34.here hx rfl (hb hby ds_57) rfl ?_
              show Steps p.tables e below (T34.setTop (mkF m 58 #[.val (.ref xa), .val (.int xo), .val (.int xn), .val (.int (0 : Int32)), .val (.int (4 : Int32))] [(.int (0 : Int32))])) _
              exact k
            obtain ⟨fs, hr, hrun, hended, hW, hsame⟩ := X34.leave (v := some (.int (0 : Int32))) (fun h => by rw [Bd.returns] at h; cases h)
            refine ⟨_, _, A54 _ ?_, hrun, hended, _, _, rfl, ?_, ⟨_, rfl⟩, hW, hsame.mono (by decide) (by decide)⟩
            · exact retN X34 hx (t := .boolean) Bd.returns (by simp) (hb hby ds_58) hr
            · show own_Qs Z xo xn cl h0 n0 _ T34.heap _
              rw [e34]
              exact ⟨(by unfold own_sr; rw [if_neg hq10, if_pos hq17, if_pos hq23, if_pos hq29, if_neg hq35]), N0, rfl⟩
        · have A55 : ∀ t, Steps p.tables e below (T28.setTop (mkF m 58 #[.val (.ref xa), .val (.int xo), .val (.int xn), .val (.int (0 : Int32)), .val (.int (3 : Int32))] [(.int (0 : Int32))])) t → Steps p.tables e below (s₁.setTop (entryFrame m #[(.ref xa), (.int xo), (.int xn)] 5)) t := by
            intro t k
            refine A30 _ ?_
            refine XS.icmpYes X28.here hx rfl (pc0 := 42) (pc' := 49) rfl (hb hby ds_42) rfl (feq hq29).2 (by decide) (by decide) ?_
            show Steps p.tables e below (T28.setTop (mkF m 49 #[.val (.ref xa), .val (.int xo), .val (.int xn), .val (.int (1 : Int32)), .val (.int (2 : Int32))] [])) _
            refine XS.iconst X28.here hx rfl (hb hby ds_49) ?_
            show Steps p.tables e below (T28.setTop (mkF m 50 #[.val (.ref xa), .val (.int xo), .val (.int xn), .val (.int (1 : Int32)), .val (.int (2 : Int32))] [(.int (0 : Int32))])) _
            refine XS.istoreN X28.here hx rfl (hb hby ds_50) rfl (l' := #[.val (.ref xa), .val (.int xo), .val (.int xn), .val (.int (0 : Int32)), .val (.int (2 : Int32))]) rfl ?_
            show Steps p.tables e below (T28.setTop (mkF m 51 #[.val (.ref xa), .val (.int xo), .val (.int xn), .val (.int (0 : Int32)), .val (.int (2 : Int32))] [])) _
            refine XS.iinc X28.here hx rfl (hb hby ds_51) rfl (l' := #[.val (.ref xa), .val (.int xo), .val (.int xn), .val (.int (0 : Int32)), .val (.int (3 : Int32))]) rfl ?_
            show Steps p.tables e below (T28.setTop (mkF m 54 #[.val (.ref xa), .val (.int xo), .val (.int xn), .val (.int (0 : Int32)), .val (.int (3 : Int32))] [])) _
            refine XS.goto X28.here hx rfl (pc0 := 54) (pc' := 17) rfl (hb hby ds_54) (by decide) (by decide) ?_
            show Steps p.tables e below (T28.setTop (mkF m 17 #[.val (.ref xa), .val (.int xo), .val (.int xn), .val (.int (0 : Int32)), .val (.int (3 : Int32))] [])) _
            refine XS.iloadN X28.here hx rfl (hb hby ds_17) rfl ?_
            show Steps p.tables e below (T28.setTop (mkF m 18 #[.val (.ref xa), .val (.int xo), .val (.int xn), .val (.int (0 : Int32)), .val (.int (3 : Int32))] [(.int (0 : Int32))])) _
            refine XS.ifYes X28.here hx rfl (pc0 := 18) (pc' := 57) rfl (hb hby ds_18) rfl ((if0 _ _).trans (teq (by decide : ((0 : Int32) = (0 : Int32)))).1) (by decide) (by decide) ?_
            show Steps p.tables e below (T28.setTop (mkF m 57 #[.val (.ref xa), .val (.int xo), .val (.int xn), .val (.int (0 : Int32)), .val (.int (3 : Int32))] [])) _
            refine XS.iloadN X28.here hx rfl (hb hby ds_57) rfl ?_
            show Steps p.tables e below (T28.setTop (mkF m 58 #[.val (.ref xa), .val (.int xo), .val (.int xn), .val (.int (0 : Int32)), .val (.int (3 : Int32))] [(.int (0 : Int32))])) _
            exact k
          obtain ⟨fs, hr, hrun, hended, hW, hsame⟩ := X28.leave (v := some (.int (0 : Int32))) (fun h => by rw [Bd.returns] at h; cases h)
          refine ⟨_, _, A55 _ ?_, hrun, hended, _, _, rfl, ?_, ⟨_, rfl⟩, hW, hsame.mono (by decide) (by decide)⟩
          · exact retN X28 hx (t := .boolean) Bd.returns (by simp) (hb hby ds_58) hr
          · show own_Qs Z xo xn cl h0 n0 _ T28.heap _
            rw [e28]
            exact ⟨(by unfold own_sr; rw [if_neg hq10, if_pos hq17, if_pos hq23, if_neg hq29]), N0, rfl⟩
      · have A56 : ∀ t, Steps p.tables e below (T22.setTop (mkF m 58 #[.val (.ref xa), .val (.int xo), .val (.int xn), .val (.int (0 : Int32)), .val (.int (2 : Int32))] [(.int (0 : Int32))])) t → Steps p.tables e below (s₁.setTop (entryFrame m #[(.ref xa), (.int xo), (.int xn)] 5)) t := by
          intro t k
          refine A24 _ ?_
          refine XS.icmpYes X22.here hx rfl (pc0 := 42) (pc' := 49) rfl (hb hby ds_42) rfl (feq hq23).2 (by decide) (by decide) ?_
          show Steps p.tables e below (T22.setTop (mkF m 49 #[.val (.ref xa), .val (.int xo), .val (.int xn), .val (.int (1 : Int32)), .val (.int (1 : Int32))] [])) _
          refine XS.iconst X22.here hx rfl (hb hby ds_49) ?_
          show Steps p.tables e below (T22.setTop (mkF m 50 #[.val (.ref xa), .val (.int xo), .val (.int xn), .val (.int (1 : Int32)), .val (.int (1 : Int32))] [(.int (0 : Int32))])) _
          refine XS.istoreN X22.here hx rfl (hb hby ds_50) rfl (l' := #[.val (.ref xa), .val (.int xo), .val (.int xn), .val (.int (0 : Int32)), .val (.int (1 : Int32))]) rfl ?_
          show Steps p.tables e below (T22.setTop (mkF m 51 #[.val (.ref xa), .val (.int xo), .val (.int xn), .val (.int (0 : Int32)), .val (.int (1 : Int32))] [])) _
          refine XS.iinc X22.here hx rfl (hb hby ds_51) rfl (l' := #[.val (.ref xa), .val (.int xo), .val (.int xn), .val (.int (0 : Int32)), .val (.int (2 : Int32))]) rfl ?_
          show Steps p.tables e below (T22.setTop (mkF m 54 #[.val (.ref xa), .val (.int xo), .val (.int xn), .val (.int (0 : Int32)), .val (.int (2 : Int32))] [])) _
          refine XS.goto X22.here hx rfl (pc0 := 54) (pc' := 17) rfl (hb hby ds_54) (by decide) (by decide) ?_
          show Steps p.tables e below (T22.setTop (mkF m 17 #[.val (.ref xa), .val (.int xo), .val (.int xn), .val (.int (0 : Int32)), .val (.int (2 : Int32))] [])) _
          refine XS.iloadN X22.here hx rfl (hb hby ds_17) rfl ?_
          show Steps p.tables e below (T22.setTop (mkF m 18 #[.val (.ref xa), .val (.int xo), .val (.int xn), .val (.int (0 : Int32)), .val (.int (2 : Int32))] [(.int (0 : Int32))])) _
          refine XS.ifYes X22.here hx rfl (pc0 := 18) (pc' := 57) rfl (hb hby ds_18) rfl ((if0 _ _).trans (teq (by decide : ((0 : Int32) = (0 : Int32)))).1) (by decide) (by decide) ?_
          show Steps p.tables e below (T22.setTop (mkF m 57 #[.val (.ref xa), .val (.int xo), .val (.int xn), .val (.int (0 : Int32)), .val (.int (2 : Int32))] [])) _
          refine XS.iloadN X22.here hx rfl (hb hby ds_57) rfl ?_
          show Steps p.tables e below (T22.setTop (mkF m 58 #[.val (.ref xa), .val (.int xo), .val (.int xn), .val (.int (0 : Int32)), .val (.int (2 : Int32))] [(.int (0 : Int32))])) _
          exact k
        obtain ⟨fs, hr, hrun, hended, hW, hsame⟩ := X22.leave (v := some (.int (0 : Int32))) (fun h => by rw [Bd.returns] at h; cases h)
        refine ⟨_, _, A56 _ ?_, hrun, hended, _, _, rfl, ?_, ⟨_, rfl⟩, hW, hsame.mono (by decide) (by decide)⟩
        · exact retN X22 hx (t := .boolean) Bd.returns (by simp) (hb hby ds_58) hr
        · show own_Qs Z xo xn cl h0 n0 _ T22.heap _
          rw [e22]
          exact ⟨(by unfold own_sr; rw [if_neg hq10, if_pos hq17, if_neg hq23]), N0, rfl⟩
    · have A57 : ∀ t, Steps p.tables e below (T16.setTop (mkF m 58 #[.val (.ref xa), .val (.int xo), .val (.int xn), .val (.int (0 : Int32)), .val (.int (1 : Int32))] [(.int (0 : Int32))])) t → Steps p.tables e below (s₁.setTop (entryFrame m #[(.ref xa), (.int xo), (.int xn)] 5)) t := by
        intro t k
        refine A18 _ ?_
        refine XS.icmpYes X16.here hx rfl (pc0 := 42) (pc' := 49) rfl (hb hby ds_42) rfl (feq hq17).2 (by decide) (by decide) ?_
        show Steps p.tables e below (T16.setTop (mkF m 49 #[.val (.ref xa), .val (.int xo), .val (.int xn), .val (.int (1 : Int32)), .val (.int (0 : Int32))] [])) _
        refine XS.iconst X16.here hx rfl (hb hby ds_49) ?_
        show Steps p.tables e below (T16.setTop (mkF m 50 #[.val (.ref xa), .val (.int xo), .val (.int xn), .val (.int (1 : Int32)), .val (.int (0 : Int32))] [(.int (0 : Int32))])) _
        refine XS.istoreN X16.here hx rfl (hb hby ds_50) rfl (l' := #[.val (.ref xa), .val (.int xo), .val (.int xn), .val (.int (0 : Int32)), .val (.int (0 : Int32))]) rfl ?_
        show Steps p.tables e below (T16.setTop (mkF m 51 #[.val (.ref xa), .val (.int xo), .val (.int xn), .val (.int (0 : Int32)), .val (.int (0 : Int32))] [])) _
        refine XS.iinc X16.here hx rfl (hb hby ds_51) rfl (l' := #[.val (.ref xa), .val (.int xo), .val (.int xn), .val (.int (0 : Int32)), .val (.int (1 : Int32))]) rfl ?_
        show Steps p.tables e below (T16.setTop (mkF m 54 #[.val (.ref xa), .val (.int xo), .val (.int xn), .val (.int (0 : Int32)), .val (.int (1 : Int32))] [])) _
        refine XS.goto X16.here hx rfl (pc0 := 54) (pc' := 17) rfl (hb hby ds_54) (by decide) (by decide) ?_
        show Steps p.tables e below (T16.setTop (mkF m 17 #[.val (.ref xa), .val (.int xo), .val (.int xn), .val (.int (0 : Int32)), .val (.int (1 : Int32))] [])) _
        refine XS.iloadN X16.here hx rfl (hb hby ds_17) rfl ?_
        show Steps p.tables e below (T16.setTop (mkF m 18 #[.val (.ref xa), .val (.int xo), .val (.int xn), .val (.int (0 : Int32)), .val (.int (1 : Int32))] [(.int (0 : Int32))])) _
        refine XS.ifYes X16.here hx rfl (pc0 := 18) (pc' := 57) rfl (hb hby ds_18) rfl ((if0 _ _).trans (teq (by decide : ((0 : Int32) = (0 : Int32)))).1) (by decide) (by decide) ?_
        show Steps p.tables e below (T16.setTop (mkF m 57 #[.val (.ref xa), .val (.int xo), .val (.int xn), .val (.int (0 : Int32)), .val (.int (1 : Int32))] [])) _
        refine XS.iloadN X16.here hx rfl (hb hby ds_57) rfl ?_
        show Steps p.tables e below (T16.setTop (mkF m 58 #[.val (.ref xa), .val (.int xo), .val (.int xn), .val (.int (0 : Int32)), .val (.int (1 : Int32))] [(.int (0 : Int32))])) _
        exact k
      obtain ⟨fs, hr, hrun, hended, hW, hsame⟩ := X16.leave (v := some (.int (0 : Int32))) (fun h => by rw [Bd.returns] at h; cases h)
      refine ⟨_, _, A57 _ ?_, hrun, hended, _, _, rfl, ?_, ⟨_, rfl⟩, hW, hsame.mono (by decide) (by decide)⟩
      · exact retN X16 hx (t := .boolean) Bd.returns (by simp) (hb hby ds_58) hr
      · show own_Qs Z xo xn cl h0 n0 _ T16.heap _
        rw [e16]
        exact ⟨(by unfold own_sr; rw [if_neg hq10, if_neg hq17]), N0, rfl⟩
def own_Q0 (Z : State) (x1 x2 x3 : Int32) (x4 : Int64) (h0 : Heap) (n0 : Nat) (v : Option Value) (h : Heap) (L : List Loc) : Prop := v = some (.int 1) ∧ Fr n0 L
theorem own_law_ef (m : MethodId) (x0 : Int32) (x1 : Int32) (x2 : Int32) (x3 : Int64) : entryFrame m #[(.int x0), (.int x1), (.int x2), (.long x3)] maxLocals = mkF m 0 #[.val (.int x0), .val (.int x1), .val (.int x2), .val (.long x3), .second, .unset, .unset, .unset, .unset] [] := by first | (simp [entryFrame, mkF, argsToLocals, Value.category, maxLocals]; done) | rfl
set_option maxRecDepth 65536 in
set_option maxHeartbeats 40000000 in
theorem own_law (l : Launch) (Z : State) (a0 : Array Value) (hw : ∀ d ∈ tables_1, d.before a0 Z = true) (ws : List Jvm.Cond) (x1 x2 x3 : Int32) (x4 : Int64) (va : Addr) (cr : Cell) (h0 : Heap) (n0 : Nat) (Z0 : n0 ≤ h0.size) (S0 : Sta Z Z.heap "com/example/auditwright/auditwright/delivery/SyslogFramer" "RECORD_START" "[B" (.ref va)) (TR : Tab Z Z.heap va cr .byte 6) (r0 : atv cr 0 = 60) (r1 : atv cr 1 = 56) (r2 : atv cr 2 = 53) (r3 : atv cr 3 = 62) (r4 : atv cr 4 = 49) (r5 : atv cr 5 = 32) (O0 : Old Z n0 h0) :
    MetFree l x (head1 (Jvm.Cond.code x code maxLocals ret :: ws) room_1) (fun a U => a = #[(.int x1), (.int x2), (.int x3), (.long x4)] ∧ Z.Warmed39 U.vm ∧ U.heap = h0) (fun _ _ _ _ _ => True) (fun _ U o U' => ∃ v L, o = .returned v ∧ own_Q0 Z x1 x2 x3 x4 h0 n0 v U'.heap L ∧ FrameEnd U o U' L room_1.cells room_1.slots) := by
  refine MetFree.of_bodySF (plainFor_of_name own_pn0) hisR ?_
  intro p e s m args below meth c s₁ Bd hml0 hP hK
  obtain ⟨rfl, hZ, hh⟩ := hP
  have hx := Bd.exec
  have hby := Bd.bytes
  have hml : c.maxLocals = 9 := hml0
  have hown : s.vm.findClass "com/example/auditwright/auditwright/delivery/SyslogFramerStartsAsRecordPinLaw" = some m.cls := findClass_of_methodNamed Bd.named
  have hnm := (name_of_methodNamed Bd.named Bd.method).1
  have X0 : Stand p l e room_1 s m #[(.int x1), (.int x2), (.int x3), (.long x4)] below meth c s₁ [] 0 0 := Stand.of_body Bd
  have e0 : s₁.heap = h0 := by rw [← hh, Bd.state]; rfl
  have N0 := Fr.nil n0
  have A0 : ∀ t, Steps p.tables e below (s₁.setTop (mkF m 0 #[.val (.int x1), .val (.int x2), .val (.int x3), .val (.long x4), .second, .unset, .unset, .unset, .unset] [])) t → Steps p.tables e below (s₁.setTop (entryFrame m #[(.int x1), (.int x2), (.int x3), (.long x4)] maxLocals)) t := fun t k => castTop (own_law_ef m x1 x2 x3 x4) k
  have A58 : ∀ t, Steps p.tables e below (s₁.setTop (mkF m 8 #[.val (.int x1), .val (.int x2), .val (.int x3), .val (.long x4), .second, .val (.int ((x1 &&& (2147483647 : Int32)) % (3 : Int32))), .unset, .unset, .unset] [])) t → Steps p.tables e below (s₁.setTop (entryFrame m #[(.int x1), (.int x2), (.int x3), (.long x4)] maxLocals)) t := by
    intro t k
    refine A0 _ ?_
    refine XS.iloadN X0.here hx rfl (hb hby at_0) rfl ?_
    show Steps p.tables e below (s₁.setTop (mkF m 1 #[.val (.int x1), .val (.int x2), .val (.int x3), .val (.long x4), .second, .unset, .unset, .unset, .unset] [(.int x1)])) _
    refine X0.ldcInt hx hown (mvT hZ (hw _ (List.mem_of_getElem? (i := 0) rfl))) (g := (mkF m 1 #[.val (.int x1), .val (.int x2), .val (.int x3), .val (.long x4), .second, .unset, .unset, .unset, .unset] [(.int x1)])) rfl (hb hby at_1) _ ?_
    show Steps p.tables e below (s₁.setTop (mkF m 3 #[.val (.int x1), .val (.int x2), .val (.int x3), .val (.long x4), .second, .unset, .unset, .unset, .unset] [(.int (2147483647 : Int32)), (.int x1)])) _
    refine XS.iand X0.here hx rfl (hb hby at_3) rfl ?_
    show Steps p.tables e below (s₁.setTop (mkF m 4 #[.val (.int x1), .val (.int x2), .val (.int x3), .val (.long x4), .second, .unset, .unset, .unset, .unset] [(.int (x1 &&& (2147483647 : Int32)))])) _
    refine XS.iconst X0.here hx rfl (hb hby at_4) ?_
    show Steps p.tables e below (s₁.setTop (mkF m 5 #[.val (.int x1), .val (.int x2), .val (.int x3), .val (.long x4), .second, .unset, .unset, .unset, .unset] [(.int (3 : Int32)), (.int (x1 &&& (2147483647 : Int32)))])) _
    refine iremM X0 hx rfl (hb hby at_5) rfl (by decide) ?_
    show Steps p.tables e below (s₁.setTop (mkF m 6 #[.val (.int x1), .val (.int x2), .val (.int x3), .val (.long x4), .second, .unset, .unset, .unset, .unset] [(.int ((x1 &&& (2147483647 : Int32)) % (3 : Int32)))])) _
    refine XS.istore X0.here hx rfl (hb hby at_6) rfl (l' := #[.val (.int x1), .val (.int x2), .val (.int x3), .val (.long x4), .second, .val (.int ((x1 &&& (2147483647 : Int32)) % (3 : Int32))), .unset, .unset, .unset]) rfl ?_
    show Steps p.tables e below (s₁.setTop (mkF m 8 #[.val (.int x1), .val (.int x2), .val (.int x3), .val (.long x4), .second, .val (.int ((x1 &&& (2147483647 : Int32)) % (3 : Int32))), .unset, .unset, .unset] [])) _
    exact k
  obtain ⟨xo, hxo⟩ : ∃ z, z = ((x1 &&& (2147483647 : Int32)) % (3 : Int32)) := ⟨_, rfl⟩
  rw [← hxo] at A58
  have ho : 0 ≤ xo.toInt ∧ xo.toInt ≤ 2 := by
    have m1 := c_and x1 (2147483647 : Int32) (by decide)
    have m2 := (c_irem (x1 &&& (2147483647 : Int32)) (3 : Int32) 3 rfl).1 m1.1
    rw [← hxo] at m2
    omega
  have hnz : (9 : Int32) - xo ≠ 0 := by
    intro q
    have q1 := c_isub (9 : Int32) xo
    rw [q, show (0 : Int32).toInt = 0 from rfl, show (9 : Int32).toInt = 9 from rfl] at q1
    omega
  have A59 : ∀ t, Steps p.tables e below (s₁.setTop (mkF m 20 #[.val (.int x1), .val (.int x2), .val (.int x3), .val (.long x4), .second, .val (.int xo), .val (.int ((x2 &&& (2147483647 : Int32)) % ((9 : Int32) - xo))), .unset, .unset] [])) t → Steps p.tables e below (s₁.setTop (entryFrame m #[(.int x1), (.int x2), (.int x3), (.long x4)] maxLocals)) t := by
    intro t k
    refine A58 _ ?_
    refine XS.iloadN X0.here hx rfl (hb hby at_8) rfl ?_
    show Steps p.tables e below (s₁.setTop (mkF m 9 #[.val (.int x1), .val (.int x2), .val (.int x3), .val (.long x4), .second, .val (.int xo), .unset, .unset, .unset] [(.int x2)])) _
    refine X0.ldcInt hx hown (mvT hZ (hw _ (List.mem_of_getElem? (i := 0) rfl))) (g := (mkF m 9 #[.val (.int x1), .val (.int x2), .val (.int x3), .val (.long x4), .second, .val (.int xo), .unset, .unset, .unset] [(.int x2)])) rfl (hb hby at_9) _ ?_
    show Steps p.tables e below (s₁.setTop (mkF m 11 #[.val (.int x1), .val (.int x2), .val (.int x3), .val (.long x4), .second, .val (.int xo), .unset, .unset, .unset] [(.int (2147483647 : Int32)), (.int x2)])) _
    refine XS.iand X0.here hx rfl (hb hby at_11) rfl ?_
    show Steps p.tables e below (s₁.setTop (mkF m 12 #[.val (.int x1), .val (.int x2), .val (.int x3), .val (.long x4), .second, .val (.int xo), .unset, .unset, .unset] [(.int (x2 &&& (2147483647 : Int32)))])) _
    refine XS.bipush X0.here hx rfl (hb hby at_12) ?_
    show Steps p.tables e below (s₁.setTop (mkF m 14 #[.val (.int x1), .val (.int x2), .val (.int x3), .val (.long x4), .second, .val (.int xo), .unset, .unset, .unset] [(.int (9 : Int32)), (.int (x2 &&& (2147483647 : Int32)))])) _
    refine XS.iload X0.here hx rfl (hb hby at_14) rfl ?_
    show Steps p.tables e below (s₁.setTop (mkF m 16 #[.val (.int x1), .val (.int x2), .val (.int x3), .val (.long x4), .second, .val (.int xo), .unset, .unset, .unset] [(.int xo), (.int (9 : Int32)), (.int (x2 &&& (2147483647 : Int32)))])) _
    refine XS.isub X0.here hx rfl (hb hby at_16) rfl ?_
    show Steps p.tables e below (s₁.setTop (mkF m 17 #[.val (.int x1), .val (.int x2), .val (.int x3), .val (.long x4), .second, .val (.int xo), .unset, .unset, .unset] [(.int ((9 : Int32) - xo)), (.int (x2 &&& (2147483647 : Int32)))])) _
    refine iremM X0 hx rfl (hb hby at_17) rfl hnz ?_
    show Steps p.tables e below (s₁.setTop (mkF m 18 #[.val (.int x1), .val (.int x2), .val (.int x3), .val (.long x4), .second, .val (.int xo), .unset, .unset, .unset] [(.int ((x2 &&& (2147483647 : Int32)) % ((9 : Int32) - xo)))])) _
    refine XS.istore X0.here hx rfl (hb hby at_18) rfl (l' := #[.val (.int x1), .val (.int x2), .val (.int x3), .val (.long x4), .second, .val (.int xo), .val (.int ((x2 &&& (2147483647 : Int32)) % ((9 : Int32) - xo))), .unset, .unset]) rfl ?_
    show Steps p.tables e below (s₁.setTop (mkF m 20 #[.val (.int x1), .val (.int x2), .val (.int x3), .val (.long x4), .second, .val (.int xo), .val (.int ((x2 &&& (2147483647 : Int32)) % ((9 : Int32) - xo))), .unset, .unset] [])) _
    exact k
  obtain ⟨xn, hxn⟩ : ∃ z, z = ((x2 &&& (2147483647 : Int32)) % ((9 : Int32) - xo)) := ⟨_, rfl⟩
  rw [← hxn] at A59
  have A60 : ∀ t, Steps p.tables e below (s₁.setTop (mkF m 22 #[.val (.int x1), .val (.int x2), .val (.int x3), .val (.long x4), .second, .val (.int xo), .val (.int xn), .unset, .unset] [(.int (8 : Int32))])) t → Steps p.tables e below (s₁.setTop (entryFrame m #[(.int x1), (.int x2), (.int x3), (.long x4)] maxLocals)) t := by
    intro t k
    refine A59 _ ?_
    refine XS.bipush X0.here hx rfl (hb hby at_20) ?_
    show Steps p.tables e below (s₁.setTop (mkF m 22 #[.val (.int x1), .val (.int x2), .val (.int x3), .val (.long x4), .second, .val (.int xo), .val (.int xn), .unset, .unset] [(.int (8 : Int32))])) _
    exact k
  obtain ⟨T61, h61, k61, X61, e61, E61, B61, st61⟩ := newP X0 hx hZ (hw _ (List.mem_of_getElem? (i := 1) rfl)) e0 (g := (mkF m 22 #[.val (.int x1), .val (.int x2), .val (.int x3), .val (.long x4), .second, .val (.int xo), .val (.int xn), .unset, .unset] [(.int (8 : Int32))])) rfl (hb hby at_22) rfl (by decide) (cap := 8) (by decide) (by decide) (by decide) (by decide)
  obtain ⟨b61, g61⟩ : ∃ z, z = h0.size := ⟨_, rfl⟩
  rw [← g61] at B61 st61
  have TB62 := own_tabNew B61
  have Ol63 := O0.ext E61
  have ge64 := Nat.le_trans Z0 (Nat.le_of_eq g61.symm)
  have Zs65 := Nat.le_trans Z0 E61.1
  have A66 : ∀ t, Steps p.tables e below (T61.setTop (mkF m 32 #[.val (.int x1), .val (.int x2), .val (.int x3), .val (.long x4), .second, .val (.int xo), .val (.int xn), .val (.ref b61), .unset] [(.int ((x4.toInt32).toInt8.toInt32)), (.int (0 : Int32)), (.ref b61)])) t → Steps p.tables e below (s₁.setTop (entryFrame m #[(.int x1), (.int x2), (.int x3), (.long x4)] maxLocals)) t := by
    intro t k
    refine A60 _ ?_
    refine st61 _ ?_
    show Steps p.tables e below (T61.setTop (mkF m 24 #[.val (.int x1), .val (.int x2), .val (.int x3), .val (.long x4), .second, .val (.int xo), .val (.int xn), .unset, .unset] [(.ref b61)])) _
    refine XS.astore X61.here hx rfl (hb hby at_24) rfl rfl (l' := #[.val (.int x1), .val (.int x2), .val (.int x3), .val (.long x4), .second, .val (.int xo), .val (.int xn), .val (.ref b61), .unset]) rfl ?_
    show Steps p.tables e below (T61.setTop (mkF m 26 #[.val (.int x1), .val (.int x2), .val (.int x3), .val (.long x4), .second, .val (.int xo), .val (.int xn), .val (.ref b61), .unset] [])) _
    refine XS.aload X61.here hx rfl (hb hby at_26) rfl rfl ?_
    show Steps p.tables e below (T61.setTop (mkF m 28 #[.val (.int x1), .val (.int x2), .val (.int x3), .val (.long x4), .second, .val (.int xo), .val (.int xn), .val (.ref b61), .unset] [(.ref b61)])) _
    refine XS.iconst X61.here hx rfl (hb hby at_28) ?_
    show Steps p.tables e below (T61.setTop (mkF m 29 #[.val (.int x1), .val (.int x2), .val (.int x3), .val (.long x4), .second, .val (.int xo), .val (.int xn), .val (.ref b61), .unset] [(.int (0 : Int32)), (.ref b61)])) _
    refine XS.lloadN X61.here hx rfl (hb hby at_29) rfl ?_
    show Steps p.tables e below (T61.setTop (mkF m 30 #[.val (.int x1), .val (.int x2), .val (.int x3), .val (.long x4), .second, .val (.int xo), .val (.int xn), .val (.ref b61), .unset] [(.long x4), (.int (0 : Int32)), (.ref b61)])) _
    refine XS.l2i X61.here hx rfl (hb hby at_30) rfl ?_
    show Steps p.tables e below (T61.setTop (mkF m 31 #[.val (.int x1), .val (.int x2), .val (.int x3), .val (.long x4), .second, .val (.int xo), .val (.int xn), .val (.ref b61), .unset] [(.int (x4.toInt32)), (.int (0 : Int32)), (.ref b61)])) _
    refine XS.i2b X61.here hx rfl (hb hby at_31) rfl ?_
    show Steps p.tables e below (T61.setTop (mkF m 32 #[.val (.int x1), .val (.int x2), .val (.int x3), .val (.long x4), .second, .val (.int xo), .val (.int xn), .val (.ref b61), .unset] [(.int ((x4.toInt32).toInt8.toInt32)), (.int (0 : Int32)), (.ref b61)])) _
    exact k
  have hi67 := inb_of (j := (0 : Int32)) TB62.2.1 ⟨by decide, by decide⟩
  obtain ⟨T68, h68, X68, e68, W68, st68⟩ := stB X61 hx hZ e61 TB62.1 (j := (0 : Int32)) hi67 (g := (mkF m 32 #[.val (.int x1), .val (.int x2), .val (.int x3), .val (.long x4), .second, .val (.int xo), .val (.int xn), .val (.ref b61), .unset] [(.int ((x4.toInt32).toInt8.toInt32)), (.int (0 : Int32)), (.ref b61)])) rfl rfl (hb hby at_32)
  have TB69 := own_tabSet TB62 hi67 W68
  have Ol70 := Ol63.wr W68 ge64
  have Nf71 := Fr.snoc X68 N0 ge64
  have Zs72 := Nat.le_trans Zs65 (Keep.of_wr W68).1
  have A73 : ∀ t, Steps p.tables e below (T68.setTop (mkF m 42 #[.val (.int x1), .val (.int x2), .val (.int x3), .val (.long x4), .second, .val (.int xo), .val (.int xn), .val (.ref b61), .unset] [(.int ((((x4.toUInt64 >>> ((8 : Int32) &&& 0x3f).toInt64.toUInt64).toInt64).toInt32).toInt8.toInt32)), (.int (1 : Int32)), (.ref b61)])) t → Steps p.tables e below (s₁.setTop (entryFrame m #[(.int x1), (.int x2), (.int x3), (.long x4)] maxLocals)) t := by
    intro t k
    refine A66 _ ?_
    refine st68 _ ?_
    show Steps p.tables e below (T68.setTop (mkF m 33 #[.val (.int x1), .val (.int x2), .val (.int x3), .val (.long x4), .second, .val (.int xo), .val (.int xn), .val (.ref b61), .unset] [])) _
    refine XS.aload X68.here hx rfl (hb hby at_33) rfl rfl ?_
    show Steps p.tables e below (T68.setTop (mkF m 35 #[.val (.int x1), .val (.int x2), .val (.int x3), .val (.long x4), .second, .val (.int xo), .val (.int xn), .val (.ref b61), .unset] [(.ref b61)])) _
    refine XS.iconst X68.here hx rfl (hb hby at_35) ?_
    show Steps p.tables e below (T68.setTop (mkF m 36 #[.val (.int x1), .val (.int x2), .val (.int x3), .val (.long x4), .second, .val (.int xo), .val (.int xn), .val (.ref b61), .unset] [(.int (1 : Int32)), (.ref b61)])) _
    refine XS.lloadN X68.here hx rfl (hb hby at_36) rfl ?_
    show Steps p.tables e below (T68.setTop (mkF m 37 #[.val (.int x1), .val (.int x2), .val (.int x3), .val (.long x4), .second, .val (.int xo), .val (.int xn), .val (.ref b61), .unset] [(.long x4), (.int (1 : Int32)), (.ref b61)])) _
    refine XS.bipush X68.here hx rfl (hb hby at_37) ?_
    show Steps p.tables e below (T68.setTop (mkF m 39 #[.val (.int x1), .val (.int x2), .val (.int x3), .val (.long x4), .second, .val (.int xo), .val (.int xn), .val (.ref b61), .unset] [(.int (8 : Int32)), (.long x4), (.int (1 : Int32)), (.ref b61)])) _
    refine XS.lushr X68.here hx rfl (hb hby at_39) rfl ?_
    show Steps p.tables e below (T68.setTop (mkF m 40 #[.val (.int x1), .val (.int x2), .val (.int x3), .val (.long x4), .second, .val (.int xo), .val (.int xn), .val (.ref b61), .unset] [(.long ((x4.toUInt64 >>> ((8 : Int32) &&& 0x3f).toInt64.toUInt64).toInt64)), (.int (1 : Int32)), (.ref b61)])) _
    refine XS.l2i X68.here hx rfl (hb hby at_40) rfl ?_
    show Steps p.tables e below (T68.setTop (mkF m 41 #[.val (.int x1), .val (.int x2), .val (.int x3), .val (.long x4), .second, .val (.int xo), .val (.int xn), .val (.ref b61), .unset] [(.int (((x4.toUInt64 >>> ((8 : Int32) &&& 0x3f).toInt64.toUInt64).toInt64).toInt32)), (.int (1 : Int32)), (.ref b61)])) _
    refine XS.i2b X68.here hx rfl (hb hby at_41) rfl ?_
    show Steps p.tables e below (T68.setTop (mkF m 42 #[.val (.int x1), .val (.int x2), .val (.int x3), .val (.long x4), .second, .val (.int xo), .val (.int xn), .val (.ref b61), .unset] [(.int ((((x4.toUInt64 >>> ((8 : Int32) &&& 0x3f).toInt64.toUInt64).toInt64).toInt32).toInt8.toInt32)), (.int (1 : Int32)), (.ref b61)])) _
    exact k
  have hi74 := inb_of (j := (1 : Int32)) TB69.2.1 ⟨by decide, by decide⟩
  obtain ⟨T75, h75, X75, e75, W75, st75⟩ := stB X68 hx hZ e68 TB69.1 (j := (1 : Int32)) hi74 (g := (mkF m 42 #[.val (.int x1), .val (.int x2), .val (.int x3), .val (.long x4), .second, .val (.int xo), .val (.int xn), .val (.ref b61), .unset] [(.int ((((x4.toUInt64 >>> ((8 : Int32) &&& 0x3f).toInt64.toUInt64).toInt64).toInt32).toInt8.toInt32)), (.int (1 : Int32)), (.ref b61)])) rfl rfl (hb hby at_42)
  have TB76 := own_tabSet TB69 hi74 W75
  have Ol77 := Ol70.wr W75 ge64
  have Nf78 := Fr.snoc X75 Nf71 ge64
  have Zs79 := Nat.le_trans Zs72 (Keep.of_wr W75).1
  have A80 : ∀ t, Steps p.tables e below (T75.setTop (mkF m 52 #[.val (.int x1), .val (.int x2), .val (.int x3), .val (.long x4), .second, .val (.int xo), .val (.int xn), .val (.ref b61), .unset] [(.int ((((x4.toUInt64 >>> ((16 : Int32) &&& 0x3f).toInt64.toUInt64).toInt64).toInt32).toInt8.toInt32)), (.int (2 : Int32)), (.ref b61)])) t → Steps p.tables e below (s₁.setTop (entryFrame m #[(.int x1), (.int x2), (.int x3), (.long x4)] maxLocals)) t := by
    intro t k
    refine A73 _ ?_
    refine st75 _ ?_
    show Steps p.tables e below (T75.setTop (mkF m 43 #[.val (.int x1), .val (.int x2), .val (.int x3), .val (.long x4), .second, .val (.int xo), .val (.int xn), .val (.ref b61), .unset] [])) _
    refine XS.aload X75.here hx rfl (hb hby at_43) rfl rfl ?_
    show Steps p.tables e below (T75.setTop (mkF m 45 #[.val (.int x1), .val (.int x2), .val (.int x3), .val (.long x4), .second, .val (.int xo), .val (.int xn), .val (.ref b61), .unset] [(.ref b61)])) _
    refine XS.iconst X75.here hx rfl (hb hby at_45) ?_
    show Steps p.tables e below (T75.setTop (mkF m 46 #[.val (.int x1), .val (.int x2), .val (.int x3), .val (.long x4), .second, .val (.int xo), .val (.int xn), .val (.ref b61), .unset] [(.int (2 : Int32)), (.ref b61)])) _
    refine XS.lloadN X75.here hx rfl (hb hby at_46) rfl ?_
    show Steps p.tables e below (T75.setTop (mkF m 47 #[.val (.int x1), .val (.int x2), .val (.int x3), .val (.long x4), .second, .val (.int xo), .val (.int xn), .val (.ref b61), .unset] [(.long x4), (.int (2 : Int32)), (.ref b61)])) _
    refine XS.bipush X75.here hx rfl (hb hby at_47) ?_
    show Steps p.tables e below (T75.setTop (mkF m 49 #[.val (.int x1), .val (.int x2), .val (.int x3), .val (.long x4), .second, .val (.int xo), .val (.int xn), .val (.ref b61), .unset] [(.int (16 : Int32)), (.long x4), (.int (2 : Int32)), (.ref b61)])) _
    refine XS.lushr X75.here hx rfl (hb hby at_49) rfl ?_
    show Steps p.tables e below (T75.setTop (mkF m 50 #[.val (.int x1), .val (.int x2), .val (.int x3), .val (.long x4), .second, .val (.int xo), .val (.int xn), .val (.ref b61), .unset] [(.long ((x4.toUInt64 >>> ((16 : Int32) &&& 0x3f).toInt64.toUInt64).toInt64)), (.int (2 : Int32)), (.ref b61)])) _
    refine XS.l2i X75.here hx rfl (hb hby at_50) rfl ?_
    show Steps p.tables e below (T75.setTop (mkF m 51 #[.val (.int x1), .val (.int x2), .val (.int x3), .val (.long x4), .second, .val (.int xo), .val (.int xn), .val (.ref b61), .unset] [(.int (((x4.toUInt64 >>> ((16 : Int32) &&& 0x3f).toInt64.toUInt64).toInt64).toInt32)), (.int (2 : Int32)), (.ref b61)])) _
    refine XS.i2b X75.here hx rfl (hb hby at_51) rfl ?_
    show Steps p.tables e below (T75.setTop (mkF m 52 #[.val (.int x1), .val (.int x2), .val (.int x3), .val (.long x4), .second, .val (.int xo), .val (.int xn), .val (.ref b61), .unset] [(.int ((((x4.toUInt64 >>> ((16 : Int32) &&& 0x3f).toInt64.toUInt64).toInt64).toInt32).toInt8.toInt32)), (.int (2 : Int32)), (.ref b61)])) _
    exact k
  have hi81 := inb_of (j := (2 : Int32)) TB76.2.1 ⟨by decide, by decide⟩
  obtain ⟨T82, h82, X82, e82, W82, st82⟩ := stB X75 hx hZ e75 TB76.1 (j := (2 : Int32)) hi81 (g := (mkF m 52 #[.val (.int x1), .val (.int x2), .val (.int x3), .val (.long x4), .second, .val (.int xo), .val (.int xn), .val (.ref b61), .unset] [(.int ((((x4.toUInt64 >>> ((16 : Int32) &&& 0x3f).toInt64.toUInt64).toInt64).toInt32).toInt8.toInt32)), (.int (2 : Int32)), (.ref b61)])) rfl rfl (hb hby at_52)
  have TB83 := own_tabSet TB76 hi81 W82
  have Ol84 := Ol77.wr W82 ge64
  have Nf85 := Fr.snoc X82 Nf78 ge64
  have Zs86 := Nat.le_trans Zs79 (Keep.of_wr W82).1
  have A87 : ∀ t, Steps p.tables e below (T82.setTop (mkF m 62 #[.val (.int x1), .val (.int x2), .val (.int x3), .val (.long x4), .second, .val (.int xo), .val (.int xn), .val (.ref b61), .unset] [(.int ((((x4.toUInt64 >>> ((24 : Int32) &&& 0x3f).toInt64.toUInt64).toInt64).toInt32).toInt8.toInt32)), (.int (3 : Int32)), (.ref b61)])) t → Steps p.tables e below (s₁.setTop (entryFrame m #[(.int x1), (.int x2), (.int x3), (.long x4)] maxLocals)) t := by
    intro t k
    refine A80 _ ?_
    refine st82 _ ?_
    show Steps p.tables e below (T82.setTop (mkF m 53 #[.val (.int x1), .val (.int x2), .val (.int x3), .val (.long x4), .second, .val (.int xo), .val (.int xn), .val (.ref b61), .unset] [])) _
    refine XS.aload X82.here hx rfl (hb hby at_53) rfl rfl ?_
    show Steps p.tables e below (T82.setTop (mkF m 55 #[.val (.int x1), .val (.int x2), .val (.int x3), .val (.long x4), .second, .val (.int xo), .val (.int xn), .val (.ref b61), .unset] [(.ref b61)])) _
    refine XS.iconst X82.here hx rfl (hb hby at_55) ?_
    show Steps p.tables e below (T82.setTop (mkF m 56 #[.val (.int x1), .val (.int x2), .val (.int x3), .val (.long x4), .second, .val (.int xo), .val (.int xn), .val (.ref b61), .unset] [(.int (3 : Int32)), (.ref b61)])) _
    refine XS.lloadN X82.here hx rfl (hb hby at_56) rfl ?_
    show Steps p.tables e below (T82.setTop (mkF m 57 #[.val (.int x1), .val (.int x2), .val (.int x3), .val (.long x4), .second, .val (.int xo), .val (.int xn), .val (.ref b61), .unset] [(.long x4), (.int (3 : Int32)), (.ref b61)])) _
    refine XS.bipush X82.here hx rfl (hb hby at_57) ?_
    show Steps p.tables e below (T82.setTop (mkF m 59 #[.val (.int x1), .val (.int x2), .val (.int x3), .val (.long x4), .second, .val (.int xo), .val (.int xn), .val (.ref b61), .unset] [(.int (24 : Int32)), (.long x4), (.int (3 : Int32)), (.ref b61)])) _
    refine XS.lushr X82.here hx rfl (hb hby at_59) rfl ?_
    show Steps p.tables e below (T82.setTop (mkF m 60 #[.val (.int x1), .val (.int x2), .val (.int x3), .val (.long x4), .second, .val (.int xo), .val (.int xn), .val (.ref b61), .unset] [(.long ((x4.toUInt64 >>> ((24 : Int32) &&& 0x3f).toInt64.toUInt64).toInt64)), (.int (3 : Int32)), (.ref b61)])) _
    refine XS.l2i X82.here hx rfl (hb hby at_60) rfl ?_
    show Steps p.tables e below (T82.setTop (mkF m 61 #[.val (.int x1), .val (.int x2), .val (.int x3), .val (.long x4), .second, .val (.int xo), .val (.int xn), .val (.ref b61), .unset] [(.int (((x4.toUInt64 >>> ((24 : Int32) &&& 0x3f).toInt64.toUInt64).toInt64).toInt32)), (.int (3 : Int32)), (.ref b61)])) _
    refine XS.i2b X82.here hx rfl (hb hby at_61) rfl ?_
    show Steps p.tables e below (T82.setTop (mkF m 62 #[.val (.int x1), .val (.int x2), .val (.int x3), .val (.long x4), .second, .val (.int xo), .val (.int xn), .val (.ref b61), .unset] [(.int ((((x4.toUInt64 >>> ((24 : Int32) &&& 0x3f).toInt64.toUInt64).toInt64).toInt32).toInt8.toInt32)), (.int (3 : Int32)), (.ref b61)])) _
    exact k
  have hi88 := inb_of (j := (3 : Int32)) TB83.2.1 ⟨by decide, by decide⟩
  obtain ⟨T89, h89, X89, e89, W89, st89⟩ := stB X82 hx hZ e82 TB83.1 (j := (3 : Int32)) hi88 (g := (mkF m 62 #[.val (.int x1), .val (.int x2), .val (.int x3), .val (.long x4), .second, .val (.int xo), .val (.int xn), .val (.ref b61), .unset] [(.int ((((x4.toUInt64 >>> ((24 : Int32) &&& 0x3f).toInt64.toUInt64).toInt64).toInt32).toInt8.toInt32)), (.int (3 : Int32)), (.ref b61)])) rfl rfl (hb hby at_62)
  have TB90 := own_tabSet TB83 hi88 W89
  have Ol91 := Ol84.wr W89 ge64
  have Nf92 := Fr.snoc X89 Nf85 ge64
  have Zs93 := Nat.le_trans Zs86 (Keep.of_wr W89).1
  have A94 : ∀ t, Steps p.tables e below (T89.setTop (mkF m 72 #[.val (.int x1), .val (.int x2), .val (.int x3), .val (.long x4), .second, .val (.int xo), .val (.int xn), .val (.ref b61), .unset] [(.int ((((x4.toUInt64 >>> ((32 : Int32) &&& 0x3f).toInt64.toUInt64).toInt64).toInt32).toInt8.toInt32)), (.int (4 : Int32)), (.ref b61)])) t → Steps p.tables e below (s₁.setTop (entryFrame m #[(.int x1), (.int x2), (.int x3), (.long x4)] maxLocals)) t := by
    intro t k
    refine A87 _ ?_
    refine st89 _ ?_
    show Steps p.tables e below (T89.setTop (mkF m 63 #[.val (.int x1), .val (.int x2), .val (.int x3), .val (.long x4), .second, .val (.int xo), .val (.int xn), .val (.ref b61), .unset] [])) _
    refine XS.aload X89.here hx rfl (hb hby at_63) rfl rfl ?_
    show Steps p.tables e below (T89.setTop (mkF m 65 #[.val (.int x1), .val (.int x2), .val (.int x3), .val (.long x4), .second, .val (.int xo), .val (.int xn), .val (.ref b61), .unset] [(.ref b61)])) _
    refine XS.iconst X89.here hx rfl (hb hby at_65) ?_
    show Steps p.tables e below (T89.setTop (mkF m 66 #[.val (.int x1), .val (.int x2), .val (.int x3), .val (.long x4), .second, .val (.int xo), .val (.int xn), .val (.ref b61), .unset] [(.int (4 : Int32)), (.ref b61)])) _
    refine XS.lloadN X89.here hx rfl (hb hby at_66) rfl ?_
    show Steps p.tables e below (T89.setTop (mkF m 67 #[.val (.int x1), .val (.int x2), .val (.int x3), .val (.long x4), .second, .val (.int xo), .val (.int xn), .val (.ref b61), .unset] [(.long x4), (.int (4 : Int32)), (.ref b61)])) _
    refine XS.bipush X89.here hx rfl (hb hby at_67) ?_
    show Steps p.tables e below (T89.setTop (mkF m 69 #[.val (.int x1), .val (.int x2), .val (.int x3), .val (.long x4), .second, .val (.int xo), .val (.int xn), .val (.ref b61), .unset] [(.int (32 : Int32)), (.long x4), (.int (4 : Int32)), (.ref b61)])) _
    refine XS.lushr X89.here hx rfl (hb hby at_69) rfl ?_
    show Steps p.tables e below (T89.setTop (mkF m 70 #[.val (.int x1), .val (.int x2), .val (.int x3), .val (.long x4), .second, .val (.int xo), .val (.int xn), .val (.ref b61), .unset] [(.long ((x4.toUInt64 >>> ((32 : Int32) &&& 0x3f).toInt64.toUInt64).toInt64)), (.int (4 : Int32)), (.ref b61)])) _
    refine XS.l2i X89.here hx rfl (hb hby at_70) rfl ?_
    show Steps p.tables e below (T89.setTop (mkF m 71 #[.val (.int x1), .val (.int x2), .val (.int x3), .val (.long x4), .second, .val (.int xo), .val (.int xn), .val (.ref b61), .unset] [(.int (((x4.toUInt64 >>> ((32 : Int32) &&& 0x3f).toInt64.toUInt64).toInt64).toInt32)), (.int (4 : Int32)), (.ref b61)])) _
    refine XS.i2b X89.here hx rfl (hb hby at_71) rfl ?_
    show Steps p.tables e below (T89.setTop (mkF m 72 #[.val (.int x1), .val (.int x2), .val (.int x3), .val (.long x4), .second, .val (.int xo), .val (.int xn), .val (.ref b61), .unset] [(.int ((((x4.toUInt64 >>> ((32 : Int32) &&& 0x3f).toInt64.toUInt64).toInt64).toInt32).toInt8.toInt32)), (.int (4 : Int32)), (.ref b61)])) _
    exact k
  have hi95 := inb_of (j := (4 : Int32)) TB90.2.1 ⟨by decide, by decide⟩
  obtain ⟨T96, h96, X96, e96, W96, st96⟩ := stB X89 hx hZ e89 TB90.1 (j := (4 : Int32)) hi95 (g := (mkF m 72 #[.val (.int x1), .val (.int x2), .val (.int x3), .val (.long x4), .second, .val (.int xo), .val (.int xn), .val (.ref b61), .unset] [(.int ((((x4.toUInt64 >>> ((32 : Int32) &&& 0x3f).toInt64.toUInt64).toInt64).toInt32).toInt8.toInt32)), (.int (4 : Int32)), (.ref b61)])) rfl rfl (hb hby at_72)
  have TB97 := own_tabSet TB90 hi95 W96
  have Ol98 := Ol91.wr W96 ge64
  have Nf99 := Fr.snoc X96 Nf92 ge64
  have Zs100 := Nat.le_trans Zs93 (Keep.of_wr W96).1
  have A101 : ∀ t, Steps p.tables e below (T96.setTop (mkF m 82 #[.val (.int x1), .val (.int x2), .val (.int x3), .val (.long x4), .second, .val (.int xo), .val (.int xn), .val (.ref b61), .unset] [(.int ((((x4.toUInt64 >>> ((40 : Int32) &&& 0x3f).toInt64.toUInt64).toInt64).toInt32).toInt8.toInt32)), (.int (5 : Int32)), (.ref b61)])) t → Steps p.tables e below (s₁.setTop (entryFrame m #[(.int x1), (.int x2), (.int x3), (.long x4)] maxLocals)) t := by
    intro t k
    refine A94 _ ?_
    refine st96 _ ?_
    show Steps p.tables e below (T96.setTop (mkF m 73 #[.val (.int x1), .val (.int x2), .val (.int x3), .val (.long x4), .second, .val (.int xo), .val (.int xn), .val (.ref b61), .unset] [])) _
    refine XS.aload X96.here hx rfl (hb hby at_73) rfl rfl ?_
    show Steps p.tables e below (T96.setTop (mkF m 75 #[.val (.int x1), .val (.int x2), .val (.int x3), .val (.long x4), .second, .val (.int xo), .val (.int xn), .val (.ref b61), .unset] [(.ref b61)])) _
    refine XS.iconst X96.here hx rfl (hb hby at_75) ?_
    show Steps p.tables e below (T96.setTop (mkF m 76 #[.val (.int x1), .val (.int x2), .val (.int x3), .val (.long x4), .second, .val (.int xo), .val (.int xn), .val (.ref b61), .unset] [(.int (5 : Int32)), (.ref b61)])) _
    refine XS.lloadN X96.here hx rfl (hb hby at_76) rfl ?_
    show Steps p.tables e below (T96.setTop (mkF m 77 #[.val (.int x1), .val (.int x2), .val (.int x3), .val (.long x4), .second, .val (.int xo), .val (.int xn), .val (.ref b61), .unset] [(.long x4), (.int (5 : Int32)), (.ref b61)])) _
    refine XS.bipush X96.here hx rfl (hb hby at_77) ?_
    show Steps p.tables e below (T96.setTop (mkF m 79 #[.val (.int x1), .val (.int x2), .val (.int x3), .val (.long x4), .second, .val (.int xo), .val (.int xn), .val (.ref b61), .unset] [(.int (40 : Int32)), (.long x4), (.int (5 : Int32)), (.ref b61)])) _
    refine XS.lushr X96.here hx rfl (hb hby at_79) rfl ?_
    show Steps p.tables e below (T96.setTop (mkF m 80 #[.val (.int x1), .val (.int x2), .val (.int x3), .val (.long x4), .second, .val (.int xo), .val (.int xn), .val (.ref b61), .unset] [(.long ((x4.toUInt64 >>> ((40 : Int32) &&& 0x3f).toInt64.toUInt64).toInt64)), (.int (5 : Int32)), (.ref b61)])) _
    refine XS.l2i X96.here hx rfl (hb hby at_80) rfl ?_
    show Steps p.tables e below (T96.setTop (mkF m 81 #[.val (.int x1), .val (.int x2), .val (.int x3), .val (.long x4), .second, .val (.int xo), .val (.int xn), .val (.ref b61), .unset] [(.int (((x4.toUInt64 >>> ((40 : Int32) &&& 0x3f).toInt64.toUInt64).toInt64).toInt32)), (.int (5 : Int32)), (.ref b61)])) _
    refine XS.i2b X96.here hx rfl (hb hby at_81) rfl ?_
    show Steps p.tables e below (T96.setTop (mkF m 82 #[.val (.int x1), .val (.int x2), .val (.int x3), .val (.long x4), .second, .val (.int xo), .val (.int xn), .val (.ref b61), .unset] [(.int ((((x4.toUInt64 >>> ((40 : Int32) &&& 0x3f).toInt64.toUInt64).toInt64).toInt32).toInt8.toInt32)), (.int (5 : Int32)), (.ref b61)])) _
    exact k
  have hi102 := inb_of (j := (5 : Int32)) TB97.2.1 ⟨by decide, by decide⟩
  obtain ⟨T103, h103, X103, e103, W103, st103⟩ := stB X96 hx hZ e96 TB97.1 (j := (5 : Int32)) hi102 (g := (mkF m 82 #[.val (.int x1), .val (.int x2), .val (.int x3), .val (.long x4), .second, .val (.int xo), .val (.int xn), .val (.ref b61), .unset] [(.int ((((x4.toUInt64 >>> ((40 : Int32) &&& 0x3f).toInt64.toUInt64).toInt64).toInt32).toInt8.toInt32)), (.int (5 : Int32)), (.ref b61)])) rfl rfl (hb hby at_82)
  have TB104 := own_tabSet TB97 hi102 W103
  have Ol105 := Ol98.wr W103 ge64
  have Nf106 := Fr.snoc X103 Nf99 ge64
  have Zs107 := Nat.le_trans Zs100 (Keep.of_wr W103).1
  have A108 : ∀ t, Steps p.tables e below (T103.setTop (mkF m 93 #[.val (.int x1), .val (.int x2), .val (.int x3), .val (.long x4), .second, .val (.int xo), .val (.int xn), .val (.ref b61), .unset] [(.int ((((x4.toUInt64 >>> ((48 : Int32) &&& 0x3f).toInt64.toUInt64).toInt64).toInt32).toInt8.toInt32)), (.int (6 : Int32)), (.ref b61)])) t → Steps p.tables e below (s₁.setTop (entryFrame m #[(.int x1), (.int x2), (.int x3), (.long x4)] maxLocals)) t := by
    intro t k
    refine A101 _ ?_
    refine st103 _ ?_
    show Steps p.tables e below (T103.setTop (mkF m 83 #[.val (.int x1), .val (.int x2), .val (.int x3), .val (.long x4), .second, .val (.int xo), .val (.int xn), .val (.ref b61), .unset] [])) _
    refine XS.aload X103.here hx rfl (hb hby at_83) rfl rfl ?_
    show Steps p.tables e below (T103.setTop (mkF m 85 #[.val (.int x1), .val (.int x2), .val (.int x3), .val (.long x4), .second, .val (.int xo), .val (.int xn), .val (.ref b61), .unset] [(.ref b61)])) _
    refine XS.bipush X103.here hx rfl (hb hby at_85) ?_
    show Steps p.tables e below (T103.setTop (mkF m 87 #[.val (.int x1), .val (.int x2), .val (.int x3), .val (.long x4), .second, .val (.int xo), .val (.int xn), .val (.ref b61), .unset] [(.int (6 : Int32)), (.ref b61)])) _
    refine XS.lloadN X103.here hx rfl (hb hby at_87) rfl ?_
    show Steps p.tables e below (T103.setTop (mkF m 88 #[.val (.int x1), .val (.int x2), .val (.int x3), .val (.long x4), .second, .val (.int xo), .val (.int xn), .val (.ref b61), .unset] [(.long x4), (.int (6 : Int32)), (.ref b61)])) _
    refine XS.bipush X103.here hx rfl (hb hby at_88) ?_
    show Steps p.tables e below (T103.setTop (mkF m 90 #[.val (.int x1), .val (.int x2), .val (.int x3), .val (.long x4), .second, .val (.int xo), .val (.int xn), .val (.ref b61), .unset] [(.int (48 : Int32)), (.long x4), (.int (6 : Int32)), (.ref b61)])) _
    refine XS.lushr X103.here hx rfl (hb hby at_90) rfl ?_
    show Steps p.tables e below (T103.setTop (mkF m 91 #[.val (.int x1), .val (.int x2), .val (.int x3), .val (.long x4), .second, .val (.int xo), .val (.int xn), .val (.ref b61), .unset] [(.long ((x4.toUInt64 >>> ((48 : Int32) &&& 0x3f).toInt64.toUInt64).toInt64)), (.int (6 : Int32)), (.ref b61)])) _
    refine XS.l2i X103.here hx rfl (hb hby at_91) rfl ?_
    show Steps p.tables e below (T103.setTop (mkF m 92 #[.val (.int x1), .val (.int x2), .val (.int x3), .val (.long x4), .second, .val (.int xo), .val (.int xn), .val (.ref b61), .unset] [(.int (((x4.toUInt64 >>> ((48 : Int32) &&& 0x3f).toInt64.toUInt64).toInt64).toInt32)), (.int (6 : Int32)), (.ref b61)])) _
    refine XS.i2b X103.here hx rfl (hb hby at_92) rfl ?_
    show Steps p.tables e below (T103.setTop (mkF m 93 #[.val (.int x1), .val (.int x2), .val (.int x3), .val (.long x4), .second, .val (.int xo), .val (.int xn), .val (.ref b61), .unset] [(.int ((((x4.toUInt64 >>> ((48 : Int32) &&& 0x3f).toInt64.toUInt64).toInt64).toInt32).toInt8.toInt32)), (.int (6 : Int32)), (.ref b61)])) _
    exact k
  have hi109 := inb_of (j := (6 : Int32)) TB104.2.1 ⟨by decide, by decide⟩
  obtain ⟨T110, h110, X110, e110, W110, st110⟩ := stB X103 hx hZ e103 TB104.1 (j := (6 : Int32)) hi109 (g := (mkF m 93 #[.val (.int x1), .val (.int x2), .val (.int x3), .val (.long x4), .second, .val (.int xo), .val (.int xn), .val (.ref b61), .unset] [(.int ((((x4.toUInt64 >>> ((48 : Int32) &&& 0x3f).toInt64.toUInt64).toInt64).toInt32).toInt8.toInt32)), (.int (6 : Int32)), (.ref b61)])) rfl rfl (hb hby at_93)
  have TB111 := own_tabSet TB104 hi109 W110
  have Ol112 := Ol105.wr W110 ge64
  have Nf113 := Fr.snoc X110 Nf106 ge64
  have Zs114 := Nat.le_trans Zs107 (Keep.of_wr W110).1
  have A115 : ∀ t, Steps p.tables e below (T110.setTop (mkF m 104 #[.val (.int x1), .val (.int x2), .val (.int x3), .val (.long x4), .second, .val (.int xo), .val (.int xn), .val (.ref b61), .unset] [(.int ((((x4.toUInt64 >>> ((56 : Int32) &&& 0x3f).toInt64.toUInt64).toInt64).toInt32).toInt8.toInt32)), (.int (7 : Int32)), (.ref b61)])) t → Steps p.tables e below (s₁.setTop (entryFrame m #[(.int x1), (.int x2), (.int x3), (.long x4)] maxLocals)) t := by
    intro t k
    refine A108 _ ?_
    refine st110 _ ?_
    show Steps p.tables e below (T110.setTop (mkF m 94 #[.val (.int x1), .val (.int x2), .val (.int x3), .val (.long x4), .second, .val (.int xo), .val (.int xn), .val (.ref b61), .unset] [])) _
    refine XS.aload X110.here hx rfl (hb hby at_94) rfl rfl ?_
    show Steps p.tables e below (T110.setTop (mkF m 96 #[.val (.int x1), .val (.int x2), .val (.int x3), .val (.long x4), .second, .val (.int xo), .val (.int xn), .val (.ref b61), .unset] [(.ref b61)])) _
    refine XS.bipush X110.here hx rfl (hb hby at_96) ?_
    show Steps p.tables e below (T110.setTop (mkF m 98 #[.val (.int x1), .val (.int x2), .val (.int x3), .val (.long x4), .second, .val (.int xo), .val (.int xn), .val (.ref b61), .unset] [(.int (7 : Int32)), (.ref b61)])) _
    refine XS.lloadN X110.here hx rfl (hb hby at_98) rfl ?_
    show Steps p.tables e below (T110.setTop (mkF m 99 #[.val (.int x1), .val (.int x2), .val (.int x3), .val (.long x4), .second, .val (.int xo), .val (.int xn), .val (.ref b61), .unset] [(.long x4), (.int (7 : Int32)), (.ref b61)])) _
    refine XS.bipush X110.here hx rfl (hb hby at_99) ?_
    show Steps p.tables e below (T110.setTop (mkF m 101 #[.val (.int x1), .val (.int x2), .val (.int x3), .val (.long x4), .second, .val (.int xo), .val (.int xn), .val (.ref b61), .unset] [(.int (56 : Int32)), (.long x4), (.int (7 : Int32)), (.ref b61)])) _
    refine XS.lushr X110.here hx rfl (hb hby at_101) rfl ?_
    show Steps p.tables e below (T110.setTop (mkF m 102 #[.val (.int x1), .val (.int x2), .val (.int x3), .val (.long x4), .second, .val (.int xo), .val (.int xn), .val (.ref b61), .unset] [(.long ((x4.toUInt64 >>> ((56 : Int32) &&& 0x3f).toInt64.toUInt64).toInt64)), (.int (7 : Int32)), (.ref b61)])) _
    refine XS.l2i X110.here hx rfl (hb hby at_102) rfl ?_
    show Steps p.tables e below (T110.setTop (mkF m 103 #[.val (.int x1), .val (.int x2), .val (.int x3), .val (.long x4), .second, .val (.int xo), .val (.int xn), .val (.ref b61), .unset] [(.int (((x4.toUInt64 >>> ((56 : Int32) &&& 0x3f).toInt64.toUInt64).toInt64).toInt32)), (.int (7 : Int32)), (.ref b61)])) _
    refine XS.i2b X110.here hx rfl (hb hby at_103) rfl ?_
    show Steps p.tables e below (T110.setTop (mkF m 104 #[.val (.int x1), .val (.int x2), .val (.int x3), .val (.long x4), .second, .val (.int xo), .val (.int xn), .val (.ref b61), .unset] [(.int ((((x4.toUInt64 >>> ((56 : Int32) &&& 0x3f).toInt64.toUInt64).toInt64).toInt32).toInt8.toInt32)), (.int (7 : Int32)), (.ref b61)])) _
    exact k
  have hi116 := inb_of (j := (7 : Int32)) TB111.2.1 ⟨by decide, by decide⟩
  obtain ⟨T117, h117, X117, e117, W117, st117⟩ := stB X110 hx hZ e110 TB111.1 (j := (7 : Int32)) hi116 (g := (mkF m 104 #[.val (.int x1), .val (.int x2), .val (.int x3), .val (.long x4), .second, .val (.int xo), .val (.int xn), .val (.ref b61), .unset] [(.int ((((x4.toUInt64 >>> ((56 : Int32) &&& 0x3f).toInt64.toUInt64).toInt64).toInt32).toInt8.toInt32)), (.int (7 : Int32)), (.ref b61)])) rfl rfl (hb hby at_104)
  have TB118 := own_tabSet TB111 hi116 W117
  have Ol119 := Ol112.wr W117 ge64
  have Nf120 := Fr.snoc X117 Nf113 ge64
  have Zs121 := Nat.le_trans Zs114 (Keep.of_wr W117).1
  have A122 : ∀ t, Steps p.tables e below (T117.setTop (mkF m 113 #[.val (.int x1), .val (.int x2), .val (.int x3), .val (.long x4), .second, .val (.int xo), .val (.int xn), .val (.ref b61), .unset] [(.int (60 : Int32)), (.int (0 : Int32)), (.int x3), (.int xo), (.ref b61)])) t → Steps p.tables e below (s₁.setTop (entryFrame m #[(.int x1), (.int x2), (.int x3), (.long x4)] maxLocals)) t := by
    intro t k
    refine A115 _ ?_
    refine st117 _ ?_
    show Steps p.tables e below (T117.setTop (mkF m 105 #[.val (.int x1), .val (.int x2), .val (.int x3), .val (.long x4), .second, .val (.int xo), .val (.int xn), .val (.ref b61), .unset] [])) _
    refine XS.aload X117.here hx rfl (hb hby at_105) rfl rfl ?_
    show Steps p.tables e below (T117.setTop (mkF m 107 #[.val (.int x1), .val (.int x2), .val (.int x3), .val (.long x4), .second, .val (.int xo), .val (.int xn), .val (.ref b61), .unset] [(.ref b61)])) _
    refine XS.iload X117.here hx rfl (hb hby at_107) rfl ?_
    show Steps p.tables e below (T117.setTop (mkF m 109 #[.val (.int x1), .val (.int x2), .val (.int x3), .val (.long x4), .second, .val (.int xo), .val (.int xn), .val (.ref b61), .unset] [(.int xo), (.ref b61)])) _
    refine XS.iloadN X117.here hx rfl (hb hby at_109) rfl ?_
    show Steps p.tables e below (T117.setTop (mkF m 110 #[.val (.int x1), .val (.int x2), .val (.int x3), .val (.long x4), .second, .val (.int xo), .val (.int xn), .val (.ref b61), .unset] [(.int x3), (.int xo), (.ref b61)])) _
    refine XS.iconst X117.here hx rfl (hb hby at_110) ?_
    show Steps p.tables e below (T117.setTop (mkF m 111 #[.val (.int x1), .val (.int x2), .val (.int x3), .val (.long x4), .second, .val (.int xo), .val (.int xn), .val (.ref b61), .unset] [(.int (0 : Int32)), (.int x3), (.int xo), (.ref b61)])) _
    refine XS.bipush X117.here hx rfl (hb hby at_111) ?_
    show Steps p.tables e below (T117.setTop (mkF m 113 #[.val (.int x1), .val (.int x2), .val (.int x3), .val (.long x4), .second, .val (.int xo), .val (.int xn), .val (.ref b61), .unset] [(.int (60 : Int32)), (.int (0 : Int32)), (.int x3), (.int xo), (.ref b61)])) _
    exact k
  obtain ⟨_, _, ⟨T123, L123, k123, n123⟩, -, X123, ⟨Lc123, hQ123, l123, y123, z123⟩, st123⟩ := Jvm.LawKit.callS X117 hx (y := (⟨"com/example/auditwright/auditwright/delivery/SyslogFramerStartsAsRecordPinLaw", "put", "([BIIIC)V"⟩ : MethodName)) hown (mvT hZ (hw _ (List.mem_of_getElem? (i := 2) rfl))) (mvT hZ (hw _ (List.mem_of_getElem? (i := 3) rfl))) (mvT hZ (hw _ (List.mem_of_getElem? (i := 4) rfl))) (mvT hZ (hw _ (List.mem_of_getElem? (i := 5) rfl))) (by decide) (backOf (W := 0) (own_put l Z a0 hw [] b61 xo x3 (0 : Int32) (60 : Int32) _ h117 n0 Zs121 TB118 ge64 (own_off ho (by decide))) hZ (hw _ (List.mem_of_getElem? (i := 5) rfl)) (hw _ (List.mem_of_getElem? (i := 4) rfl)) (by decide) (by decide)) (g := (mkF m 113 #[.val (.int x1), .val (.int x2), .val (.int x3), .val (.long x4), .second, .val (.int xo), .val (.int xn), .val (.ref b61), .unset] [(.int (60 : Int32)), (.int (0 : Int32)), (.int x3), (.int xo), (.ref b61)])) rfl (by rw [hml]; rfl) (argsL := [(.ref b61), (.int xo), (.int x3), (.int (0 : Int32)), (.int (60 : Int32))]) (rest := []) (lenOf own_pd0 rfl) rfl (by show 2 * 0 + _ ≤ _; exact Nat.le_of_eq rfl) (hb hby at_113) (fun _ _ => ⟨rfl, e117, (by decide : 1 + 0 ≤ _), (by decide : 8 + 0 ≤ _)⟩)
  dsimp only [Pt.U, Pt.locs, Pt.cells, Pt.slots] at X123 l123 y123 z123 st123 hQ123
  subst l123 y123 z123
  obtain ⟨rfl, Nq123, K123, cl123, TB123⟩ := hQ123
  have Nf124 := Fr.app Nf120 Nq123
  have Ol125 := Ol119.keep K123 (allS ge64 all0)
  have Zs126 := Nat.le_trans Zs121 K123.1
  have A127 : ∀ t, Steps p.tables e below (T123.setTop (mkF m 124 #[.val (.int x1), .val (.int x2), .val (.int x3), .val (.long x4), .second, .val (.int xo), .val (.int xn), .val (.ref b61), .unset] [(.int (56 : Int32)), (.int (1 : Int32)), (.int x3), (.int xo), (.ref b61)])) t → Steps p.tables e below (s₁.setTop (entryFrame m #[(.int x1), (.int x2), (.int x3), (.long x4)] maxLocals)) t := by
    intro t k
    refine A122 _ ?_
    refine st123 _ ?_
    show Steps p.tables e below (T123.setTop (mkF m 116 #[.val (.int x1), .val (.int x2), .val (.int x3), .val (.long x4), .second, .val (.int xo), .val (.int xn), .val (.ref b61), .unset] [])) _
    refine XS.aload X123.here hx rfl (hb hby at_116) rfl rfl ?_
    show Steps p.tables e below (T123.setTop (mkF m 118 #[.val (.int x1), .val (.int x2), .val (.int x3), .val (.long x4), .second, .val (.int xo), .val (.int xn), .val (.ref b61), .unset] [(.ref b61)])) _
    refine XS.iload X123.here hx rfl (hb hby at_118) rfl ?_
    show Steps p.tables e below (T123.setTop (mkF m 120 #[.val (.int x1), .val (.int x2), .val (.int x3), .val (.long x4), .second, .val (.int xo), .val (.int xn), .val (.ref b61), .unset] [(.int xo), (.ref b61)])) _
    refine XS.iloadN X123.here hx rfl (hb hby at_120) rfl ?_
    show Steps p.tables e below (T123.setTop (mkF m 121 #[.val (.int x1), .val (.int x2), .val (.int x3), .val (.long x4), .second, .val (.int xo), .val (.int xn), .val (.ref b61), .unset] [(.int x3), (.int xo), (.ref b61)])) _
    refine XS.iconst X123.here hx rfl (hb hby at_121) ?_
    show Steps p.tables e below (T123.setTop (mkF m 122 #[.val (.int x1), .val (.int x2), .val (.int x3), .val (.long x4), .second, .val (.int xo), .val (.int xn), .val (.ref b61), .unset] [(.int (1 : Int32)), (.int x3), (.int xo), (.ref b61)])) _
    refine XS.bipush X123.here hx rfl (hb hby at_122) ?_
    show Steps p.tables e below (T123.setTop (mkF m 124 #[.val (.int x1), .val (.int x2), .val (.int x3), .val (.long x4), .second, .val (.int xo), .val (.int xn), .val (.ref b61), .unset] [(.int (56 : Int32)), (.int (1 : Int32)), (.int x3), (.int xo), (.ref b61)])) _
    exact k
  obtain ⟨_, _, ⟨T128, L128, k128, n128⟩, -, X128, ⟨Lc128, hQ128, l128, y128, z128⟩, st128⟩ := Jvm.LawKit.callS X123 hx (y := (⟨"com/example/auditwright/auditwright/delivery/SyslogFramerStartsAsRecordPinLaw", "put", "([BIIIC)V"⟩ : MethodName)) hown (mvT hZ (hw _ (List.mem_of_getElem? (i := 2) rfl))) (mvT hZ (hw _ (List.mem_of_getElem? (i := 3) rfl))) (mvT hZ (hw _ (List.mem_of_getElem? (i := 4) rfl))) (mvT hZ (hw _ (List.mem_of_getElem? (i := 5) rfl))) (by decide) (backOf (W := 0) (own_put l Z a0 hw [] b61 xo x3 (1 : Int32) (56 : Int32) _ T123.heap n0 Zs126 TB123 ge64 (own_off ho (by decide))) hZ (hw _ (List.mem_of_getElem? (i := 5) rfl)) (hw _ (List.mem_of_getElem? (i := 4) rfl)) (by decide) (by decide)) (g := (mkF m 124 #[.val (.int x1), .val (.int x2), .val (.int x3), .val (.long x4), .second, .val (.int xo), .val (.int xn), .val (.ref b61), .unset] [(.int (56 : Int32)), (.int (1 : Int32)), (.int x3), (.int xo), (.ref b61)])) rfl (by rw [hml]; rfl) (argsL := [(.ref b61), (.int xo), (.int x3), (.int (1 : Int32)), (.int (56 : Int32))]) (rest := []) (lenOf own_pd0 rfl) rfl (by show 2 * 0 + _ ≤ _; exact Nat.le_of_eq rfl) (hb hby at_124) (fun _ _ => ⟨rfl, rfl, (by decide : 1 + 0 ≤ _), (by decide : 8 + 0 ≤ _)⟩)
  dsimp only [Pt.U, Pt.locs, Pt.cells, Pt.slots] at X128 l128 y128 z128 st128 hQ128
  subst l128 y128 z128
  obtain ⟨rfl, Nq128, K128, cl128, TB128⟩ := hQ128
  have Nf129 := Fr.app Nf124 Nq128
  have Ol130 := Ol125.keep K128 (allS ge64 all0)
  have Zs131 := Nat.le_trans Zs126 K128.1
  have A132 : ∀ t, Steps p.tables e below (T128.setTop (mkF m 135 #[.val (.int x1), .val (.int x2), .val (.int x3), .val (.long x4), .second, .val (.int xo), .val (.int xn), .val (.ref b61), .unset] [(.int (53 : Int32)), (.int (2 : Int32)), (.int x3), (.int xo), (.ref b61)])) t → Steps p.tables e below (s₁.setTop (entryFrame m #[(.int x1), (.int x2), (.int x3), (.long x4)] maxLocals)) t := by
    intro t k
    refine A127 _ ?_
    refine st128 _ ?_
    show Steps p.tables e below (T128.setTop (mkF m 127 #[.val (.int x1), .val (.int x2), .val (.int x3), .val (.long x4), .second, .val (.int xo), .val (.int xn), .val (.ref b61), .unset] [])) _
    refine XS.aload X128.here hx rfl (hb hby at_127) rfl rfl ?_
    show Steps p.tables e below (T128.setTop (mkF m 129 #[.val (.int x1), .val (.int x2), .val (.int x3), .val (.long x4), .second, .val (.int xo), .val (.int xn), .val (.ref b61), .unset] [(.ref b61)])) _
    refine XS.iload X128.here hx rfl (hb hby at_129) rfl ?_
    show Steps p.tables e below (T128.setTop (mkF m 131 #[.val (.int x1), .val (.int x2), .val (.int x3), .val (.long x4), .second, .val (.int xo), .val (.int xn), .val (.ref b61), .unset] [(.int xo), (.ref b61)])) _
    refine XS.iloadN X128.here hx rfl (hb hby at_131) rfl ?_
    show Steps p.tables e below (T128.setTop (mkF m 132 #[.val (.int x1), .val (.int x2), .val (.int x3), .val (.long x4), .second, .val (.int xo), .val (.int xn), .val (.ref b61), .unset] [(.int x3), (.int xo), (.ref b61)])) _
    refine XS.iconst X128.here hx rfl (hb hby at_132) ?_
    show Steps p.tables e below (T128.setTop (mkF m 133 #[.val (.int x1), .val (.int x2), .val (.int x3), .val (.long x4), .second, .val (.int xo), .val (.int xn), .val (.ref b61), .unset] [(.int (2 : Int32)), (.int x3), (.int xo), (.ref b61)])) _
    refine XS.bipush X128.here hx rfl (hb hby at_133) ?_
    show Steps p.tables e below (T128.setTop (mkF m 135 #[.val (.int x1), .val (.int x2), .val (.int x3), .val (.long x4), .second, .val (.int xo), .val (.int xn), .val (.ref b61), .unset] [(.int (53 : Int32)), (.int (2 : Int32)), (.int x3), (.int xo), (.ref b61)])) _
    exact k
  obtain ⟨_, _, ⟨T133, L133, k133, n133⟩, -, X133, ⟨Lc133, hQ133, l133, y133, z133⟩, st133⟩ := Jvm.LawKit.callS X128 hx (y := (⟨"com/example/auditwright/auditwright/delivery/SyslogFramerStartsAsRecordPinLaw", "put", "([BIIIC)V"⟩ : MethodName)) hown (mvT hZ (hw _ (List.mem_of_getElem? (i := 2) rfl))) (mvT hZ (hw _ (List.mem_of_getElem? (i := 3) rfl))) (mvT hZ (hw _ (List.mem_of_getElem? (i := 4) rfl))) (mvT hZ (hw _ (List.mem_of_getElem? (i := 5) rfl))) (by decide) (backOf (W := 0) (own_put l Z a0 hw [] b61 xo x3 (2 : Int32) (53 : Int32) _ T128.heap n0 Zs131 TB128 ge64 (own_off ho (by decide))) hZ (hw _ (List.mem_of_getElem? (i := 5) rfl)) (hw _ (List.mem_of_getElem? (i := 4) rfl)) (by decide) (by decide)) (g := (mkF m 135 #[.val (.int x1), .val (.int x2), .val (.int x3), .val (.long x4), .second, .val (.int xo), .val (.int xn), .val (.ref b61), .unset] [(.int (53 : Int32)), (.int (2 : Int32)), (.int x3), (.int xo), (.ref b61)])) rfl (by rw [hml]; rfl) (argsL := [(.ref b61), (.int xo), (.int x3), (.int (2 : Int32)), (.int (53 : Int32))]) (rest := []) (lenOf own_pd0 rfl) rfl (by show 2 * 0 + _ ≤ _; exact Nat.le_of_eq rfl) (hb hby at_135) (fun _ _ => ⟨rfl, rfl, (by decide : 1 + 0 ≤ _), (by decide : 8 + 0 ≤ _)⟩)
  dsimp only [Pt.U, Pt.locs, Pt.cells, Pt.slots] at X133 l133 y133 z133 st133 hQ133
  subst l133 y133 z133
  obtain ⟨rfl, Nq133, K133, cl133, TB133⟩ := hQ133
  have Nf134 := Fr.app Nf129 Nq133
  have Ol135 := Ol130.keep K133 (allS ge64 all0)
  have Zs136 := Nat.le_trans Zs131 K133.1
  have A137 : ∀ t, Steps p.tables e below (T133.setTop (mkF m 146 #[.val (.int x1), .val (.int x2), .val (.int x3), .val (.long x4), .second, .val (.int xo), .val (.int xn), .val (.ref b61), .unset] [(.int (62 : Int32)), (.int (3 : Int32)), (.int x3), (.int xo), (.ref b61)])) t → Steps p.tables e below (s₁.setTop (entryFrame m #[(.int x1), (.int x2), (.int x3), (.long x4)] maxLocals)) t := by
    intro t k
    refine A132 _ ?_
    refine st133 _ ?_
    show Steps p.tables e below (T133.setTop (mkF m 138 #[.val (.int x1), .val (.int x2), .val (.int x3), .val (.long x4), .second, .val (.int xo), .val (.int xn), .val (.ref b61), .unset] [])) _
    refine XS.aload X133.here hx rfl (hb hby at_138) rfl rfl ?_
    show Steps p.tables e below (T133.setTop (mkF m 140 #[.val (.int x1), .val (.int x2), .val (.int x3), .val (.long x4), .second, .val (.int xo), .val (.int xn), .val (.ref b61), .unset] [(.ref b61)])) _
    refine XS.iload X133.here hx rfl (hb hby at_140) rfl ?_
    show Steps p.tables e below (T133.setTop (mkF m 142 #[.val (.int x1), .val (.int x2), .val (.int x3), .val (.long x4), .second, .val (.int xo), .val (.int xn), .val (.ref b61), .unset] [(.int xo), (.ref b61)])) _
    refine XS.iloadN X133.here hx rfl (hb hby at_142) rfl ?_
    show Steps p.tables e below (T133.setTop (mkF m 143 #[.val (.int x1), .val (.int x2), .val (.int x3), .val (.long x4), .second, .val (.int xo), .val (.int xn), .val (.ref b61), .unset] [(.int x3), (.int xo), (.ref b61)])) _
    refine XS.iconst X133.here hx rfl (hb hby at_143) ?_
    show Steps p.tables e below (T133.setTop (mkF m 144 #[.val (.int x1), .val (.int x2), .val (.int x3), .val (.long x4), .second, .val (.int xo), .val (.int xn), .val (.ref b61), .unset] [(.int (3 : Int32)), (.int x3), (.int xo), (.ref b61)])) _
    refine XS.bipush X133.here hx rfl (hb hby at_144) ?_
    show Steps p.tables e below (T133.setTop (mkF m 146 #[.val (.int x1), .val (.int x2), .val (.int x3), .val (.long x4), .second, .val (.int xo), .val (.int xn), .val (.ref b61), .unset] [(.int (62 : Int32)), (.int (3 : Int32)), (.int x3), (.int xo), (.ref b61)])) _
    exact k
  obtain ⟨_, _, ⟨T138, L138, k138, n138⟩, -, X138, ⟨Lc138, hQ138, l138, y138, z138⟩, st138⟩ := Jvm.LawKit.callS X133 hx (y := (⟨"com/example/auditwright/auditwright/delivery/SyslogFramerStartsAsRecordPinLaw", "put", "([BIIIC)V"⟩ : MethodName)) hown (mvT hZ (hw _ (List.mem_of_getElem? (i := 2) rfl))) (mvT hZ (hw _ (List.mem_of_getElem? (i := 3) rfl))) (mvT hZ (hw _ (List.mem_of_getElem? (i := 4) rfl))) (mvT hZ (hw _ (List.mem_of_getElem? (i := 5) rfl))) (by decide) (backOf (W := 0) (own_put l Z a0 hw [] b61 xo x3 (3 : Int32) (62 : Int32) _ T133.heap n0 Zs136 TB133 ge64 (own_off ho (by decide))) hZ (hw _ (List.mem_of_getElem? (i := 5) rfl)) (hw _ (List.mem_of_getElem? (i := 4) rfl)) (by decide) (by decide)) (g := (mkF m 146 #[.val (.int x1), .val (.int x2), .val (.int x3), .val (.long x4), .second, .val (.int xo), .val (.int xn), .val (.ref b61), .unset] [(.int (62 : Int32)), (.int (3 : Int32)), (.int x3), (.int xo), (.ref b61)])) rfl (by rw [hml]; rfl) (argsL := [(.ref b61), (.int xo), (.int x3), (.int (3 : Int32)), (.int (62 : Int32))]) (rest := []) (lenOf own_pd0 rfl) rfl (by show 2 * 0 + _ ≤ _; exact Nat.le_of_eq rfl) (hb hby at_146) (fun _ _ => ⟨rfl, rfl, (by decide : 1 + 0 ≤ _), (by decide : 8 + 0 ≤ _)⟩)
  dsimp only [Pt.U, Pt.locs, Pt.cells, Pt.slots] at X138 l138 y138 z138 st138 hQ138
  subst l138 y138 z138
  obtain ⟨rfl, Nq138, K138, cl138, TB138⟩ := hQ138
  have Nf139 := Fr.app Nf134 Nq138
  have Ol140 := Ol135.keep K138 (allS ge64 all0)
  have Zs141 := Nat.le_trans Zs136 K138.1
  have A142 : ∀ t, Steps p.tables e below (T138.setTop (mkF m 157 #[.val (.int x1), .val (.int x2), .val (.int x3), .val (.long x4), .second, .val (.int xo), .val (.int xn), .val (.ref b61), .unset] [(.int (49 : Int32)), (.int (4 : Int32)), (.int x3), (.int xo), (.ref b61)])) t → Steps p.tables e below (s₁.setTop (entryFrame m #[(.int x1), (.int x2), (.int x3), (.long x4)] maxLocals)) t := by
    intro t k
    refine A137 _ ?_
    refine st138 _ ?_
    show Steps p.tables e below (T138.setTop (mkF m 149 #[.val (.int x1), .val (.int x2), .val (.int x3), .val (.long x4), .second, .val (.int xo), .val (.int xn), .val (.ref b61), .unset] [])) _
    refine XS.aload X138.here hx rfl (hb hby at_149) rfl rfl ?_
    show Steps p.tables e below (T138.setTop (mkF m 151 #[.val (.int x1), .val (.int x2), .val (.int x3), .val (.long x4), .second, .val (.int xo), .val (.int xn), .val (.ref b61), .unset] [(.ref b61)])) _
    refine XS.iload X138.here hx rfl (hb hby at_151) rfl ?_
    show Steps p.tables e below (T138.setTop (mkF m 153 #[.val (.int x1), .val (.int x2), .val (.int x3), .val (.long x4), .second, .val (.int xo), .val (.int xn), .val (.ref b61), .unset] [(.int xo), (.ref b61)])) _
    refine XS.iloadN X138.here hx rfl (hb hby at_153) rfl ?_
    show Steps p.tables e below (T138.setTop (mkF m 154 #[.val (.int x1), .val (.int x2), .val (.int x3), .val (.long x4), .second, .val (.int xo), .val (.int xn), .val (.ref b61), .unset] [(.int x3), (.int xo), (.ref b61)])) _
    refine XS.iconst X138.here hx rfl (hb hby at_154) ?_
    show Steps p.tables e below (T138.setTop (mkF m 155 #[.val (.int x1), .val (.int x2), .val (.int x3), .val (.long x4), .second, .val (.int xo), .val (.int xn), .val (.ref b61), .unset] [(.int (4 : Int32)), (.int x3), (.int xo), (.ref b61)])) _
    refine XS.bipush X138.here hx rfl (hb hby at_155) ?_
    show Steps p.tables e below (T138.setTop (mkF m 157 #[.val (.int x1), .val (.int x2), .val (.int x3), .val (.long x4), .second, .val (.int xo), .val (.int xn), .val (.ref b61), .unset] [(.int (49 : Int32)), (.int (4 : Int32)), (.int x3), (.int xo), (.ref b61)])) _
    exact k
  obtain ⟨_, _, ⟨T143, L143, k143, n143⟩, -, X143, ⟨Lc143, hQ143, l143, y143, z143⟩, st143⟩ := Jvm.LawKit.callS X138 hx (y := (⟨"com/example/auditwright/auditwright/delivery/SyslogFramerStartsAsRecordPinLaw", "put", "([BIIIC)V"⟩ : MethodName)) hown (mvT hZ (hw _ (List.mem_of_getElem? (i := 2) rfl))) (mvT hZ (hw _ (List.mem_of_getElem? (i := 3) rfl))) (mvT hZ (hw _ (List.mem_of_getElem? (i := 4) rfl))) (mvT hZ (hw _ (List.mem_of_getElem? (i := 5) rfl))) (by decide) (backOf (W := 0) (own_put l Z a0 hw [] b61 xo x3 (4 : Int32) (49 : Int32) _ T138.heap n0 Zs141 TB138 ge64 (own_off ho (by decide))) hZ (hw _ (List.mem_of_getElem? (i := 5) rfl)) (hw _ (List.mem_of_getElem? (i := 4) rfl)) (by decide) (by decide)) (g := (mkF m 157 #[.val (.int x1), .val (.int x2), .val (.int x3), .val (.long x4), .second, .val (.int xo), .val (.int xn), .val (.ref b61), .unset] [(.int (49 : Int32)), (.int (4 : Int32)), (.int x3), (.int xo), (.ref b61)])) rfl (by rw [hml]; rfl) (argsL := [(.ref b61), (.int xo), (.int x3), (.int (4 : Int32)), (.int (49 : Int32))]) (rest := []) (lenOf own_pd0 rfl) rfl (by show 2 * 0 + _ ≤ _; exact Nat.le_of_eq rfl) (hb hby at_157) (fun _ _ => ⟨rfl, rfl, (by decide : 1 + 0 ≤ _), (by decide : 8 + 0 ≤ _)⟩)
  dsimp only [Pt.U, Pt.locs, Pt.cells, Pt.slots] at X143 l143 y143 z143 st143 hQ143
  subst l143 y143 z143
  obtain ⟨rfl, Nq143, K143, cl143, TB143⟩ := hQ143
  have Nf144 := Fr.app Nf139 Nq143
  have Ol145 := Ol140.keep K143 (allS ge64 all0)
  have Zs146 := Nat.le_trans Zs141 K143.1
  have A147 : ∀ t, Steps p.tables e below (T143.setTop (mkF m 168 #[.val (.int x1), .val (.int x2), .val (.int x3), .val (.long x4), .second, .val (.int xo), .val (.int xn), .val (.ref b61), .unset] [(.int (32 : Int32)), (.int (5 : Int32)), (.int x3), (.int xo), (.ref b61)])) t → Steps p.tables e below (s₁.setTop (entryFrame m #[(.int x1), (.int x2), (.int x3), (.long x4)] maxLocals)) t := by
    intro t k
    refine A142 _ ?_
    refine st143 _ ?_
    show Steps p.tables e below (T143.setTop (mkF m 160 #[.val (.int x1), .val (.int x2), .val (.int x3), .val (.long x4), .second, .val (.int xo), .val (.int xn), .val (.ref b61), .unset] [])) _
    refine XS.aload X143.here hx rfl (hb hby at_160) rfl rfl ?_
    show Steps p.tables e below (T143.setTop (mkF m 162 #[.val (.int x1), .val (.int x2), .val (.int x3), .val (.long x4), .second, .val (.int xo), .val (.int xn), .val (.ref b61), .unset] [(.ref b61)])) _
    refine XS.iload X143.here hx rfl (hb hby at_162) rfl ?_
    show Steps p.tables e below (T143.setTop (mkF m 164 #[.val (.int x1), .val (.int x2), .val (.int x3), .val (.long x4), .second, .val (.int xo), .val (.int xn), .val (.ref b61), .unset] [(.int xo), (.ref b61)])) _
    refine XS.iloadN X143.here hx rfl (hb hby at_164) rfl ?_
    show Steps p.tables e below (T143.setTop (mkF m 165 #[.val (.int x1), .val (.int x2), .val (.int x3), .val (.long x4), .second, .val (.int xo), .val (.int xn), .val (.ref b61), .unset] [(.int x3), (.int xo), (.ref b61)])) _
    refine XS.iconst X143.here hx rfl (hb hby at_165) ?_
    show Steps p.tables e below (T143.setTop (mkF m 166 #[.val (.int x1), .val (.int x2), .val (.int x3), .val (.long x4), .second, .val (.int xo), .val (.int xn), .val (.ref b61), .unset] [(.int (5 : Int32)), (.int x3), (.int xo), (.ref b61)])) _
    refine XS.bipush X143.here hx rfl (hb hby at_166) ?_
    show Steps p.tables e below (T143.setTop (mkF m 168 #[.val (.int x1), .val (.int x2), .val (.int x3), .val (.long x4), .second, .val (.int xo), .val (.int xn), .val (.ref b61), .unset] [(.int (32 : Int32)), (.int (5 : Int32)), (.int x3), (.int xo), (.ref b61)])) _
    exact k
  obtain ⟨_, _, ⟨T148, L148, k148, n148⟩, -, X148, ⟨Lc148, hQ148, l148, y148, z148⟩, st148⟩ := Jvm.LawKit.callS X143 hx (y := (⟨"com/example/auditwright/auditwright/delivery/SyslogFramerStartsAsRecordPinLaw", "put", "([BIIIC)V"⟩ : MethodName)) hown (mvT hZ (hw _ (List.mem_of_getElem? (i := 2) rfl))) (mvT hZ (hw _ (List.mem_of_getElem? (i := 3) rfl))) (mvT hZ (hw _ (List.mem_of_getElem? (i := 4) rfl))) (mvT hZ (hw _ (List.mem_of_getElem? (i := 5) rfl))) (by decide) (backOf (W := 0) (own_put l Z a0 hw [] b61 xo x3 (5 : Int32) (32 : Int32) _ T143.heap n0 Zs146 TB143 ge64 (own_off ho (by decide))) hZ (hw _ (List.mem_of_getElem? (i := 5) rfl)) (hw _ (List.mem_of_getElem? (i := 4) rfl)) (by decide) (by decide)) (g := (mkF m 168 #[.val (.int x1), .val (.int x2), .val (.int x3), .val (.long x4), .second, .val (.int xo), .val (.int xn), .val (.ref b61), .unset] [(.int (32 : Int32)), (.int (5 : Int32)), (.int x3), (.int xo), (.ref b61)])) rfl (by rw [hml]; rfl) (argsL := [(.ref b61), (.int xo), (.int x3), (.int (5 : Int32)), (.int (32 : Int32))]) (rest := []) (lenOf own_pd0 rfl) rfl (by show 2 * 0 + _ ≤ _; exact Nat.le_of_eq rfl) (hb hby at_168) (fun _ _ => ⟨rfl, rfl, (by decide : 1 + 0 ≤ _), (by decide : 8 + 0 ≤ _)⟩)
  dsimp only [Pt.U, Pt.locs, Pt.cells, Pt.slots] at X148 l148 y148 z148 st148 hQ148
  subst l148 y148 z148
  obtain ⟨rfl, Nq148, K148, cl148, TB148⟩ := hQ148
  have Nf149 := Fr.app Nf144 Nq148
  have Ol150 := Ol145.keep K148 (allS ge64 all0)
  have Zs151 := Nat.le_trans Zs146 K148.1
  have A152 : ∀ t, Steps p.tables e below (T148.setTop (mkF m 171 #[.val (.int x1), .val (.int x2), .val (.int x3), .val (.long x4), .second, .val (.int xo), .val (.int xn), .val (.ref b61), .unset] [])) t → Steps p.tables e below (s₁.setTop (entryFrame m #[(.int x1), (.int x2), (.int x3), (.long x4)] maxLocals)) t := by
    intro t k
    refine A147 _ ?_
    refine st148 _ ?_
    show Steps p.tables e below (T148.setTop (mkF m 171 #[.val (.int x1), .val (.int x2), .val (.int x3), .val (.long x4), .second, .val (.int xo), .val (.int xn), .val (.ref b61), .unset] [])) _
    exact k
  have hb0 : ¬ (xo < 0 ∨ cl148.slots.size ≤ (xo).toNatClampNeg) := inb_of TB148.2.1 (by have q := own_off ho (k := 0) (by decide); simpa using q)
  have hb1 : ¬ ((xo + (1 : Int32)) < 0 ∨ cl148.slots.size ≤ ((xo + (1 : Int32))).toNatClampNeg) := inb_of TB148.2.1 (own_off ho (by decide))
  have hb2 : ¬ ((xo + (2 : Int32)) < 0 ∨ cl148.slots.size ≤ ((xo + (2 : Int32))).toNatClampNeg) := inb_of TB148.2.1 (own_off ho (by decide))
  have hb3 : ¬ ((xo + (3 : Int32)) < 0 ∨ cl148.slots.size ≤ ((xo + (3 : Int32))).toNatClampNeg) := inb_of TB148.2.1 (own_off ho (by decide))
  have hb4 : ¬ ((xo + (4 : Int32)) < 0 ∨ cl148.slots.size ≤ ((xo + (4 : Int32))).toNatClampNeg) := inb_of TB148.2.1 (own_off ho (by decide))
  have hb5 : ¬ ((xo + (5 : Int32)) < 0 ∨ cl148.slots.size ≤ ((xo + (5 : Int32))).toNatClampNeg) := inb_of TB148.2.1 (own_off ho (by decide))
  have A153 : ∀ t, Steps p.tables e below (T148.setTop (mkF m 175 #[.val (.int x1), .val (.int x2), .val (.int x3), .val (.long x4), .second, .val (.int xo), .val (.int xn), .val (.ref b61), .unset] [(.int (6 : Int32)), (.int xn)])) t → Steps p.tables e below (s₁.setTop (entryFrame m #[(.int x1), (.int x2), (.int x3), (.long x4)] maxLocals)) t := by
    intro t k
    refine A152 _ ?_
    refine XS.iload X148.here hx rfl (hb hby at_171) rfl ?_
    show Steps p.tables e below (T148.setTop (mkF m 173 #[.val (.int x1), .val (.int x2), .val (.int x3), .val (.long x4), .second, .val (.int xo), .val (.int xn), .val (.ref b61), .unset] [(.int xn)])) _
    refine XS.bipush X148.here hx rfl (hb hby at_173) ?_
    show Steps p.tables e below (T148.setTop (mkF m 175 #[.val (.int x1), .val (.int x2), .val (.int x3), .val (.long x4), .second, .val (.int xo), .val (.int xn), .val (.ref b61), .unset] [(.int (6 : Int32)), (.int xn)])) _
    exact k
  obtain ⟨u161, hu161⟩ : ∃ u : Int32, u = (if xn < (6 : Int32) then (0 : Int32) else (if (atv cl148 xo) = (60 : Int32) then (if (atv cl148 (xo + (1 : Int32))) = (56 : Int32) then (if (atv cl148 (xo + (2 : Int32))) = (53 : Int32) then (if (atv cl148 (xo + (3 : Int32))) = (62 : Int32) then (if (atv cl148 (xo + (4 : Int32))) = (49 : Int32) then (if (atv cl148 (xo + (5 : Int32))) = (32 : Int32) then (1 : Int32) else (0 : Int32)) else (0 : Int32)) else (0 : Int32)) else (0 : Int32)) else (0 : Int32)) else (0 : Int32))) := ⟨_, rfl⟩
  have A162 : ∀ t, Steps p.tables e below (T148.setTop (mkF m 253 #[.val (.int x1), .val (.int x2), .val (.int x3), .val (.long x4), .second, .val (.int xo), .val (.int xn), .val (.ref b61), .unset] [(.int u161)])) t → Steps p.tables e below (s₁.setTop (entryFrame m #[(.int x1), (.int x2), (.int x3), (.long x4)] maxLocals)) t := by
    intro t k
    refine A153 _ ?_
    by_cases hj154 : xn < (6 : Int32)
    · refine XS.icmpYes X148.here hx rfl (pc0 := 175) (pc' := 252) rfl (hb hby at_175) rfl (tlt hj154).1 (by decide) (by decide) ?_
      show Steps p.tables e below (T148.setTop (mkF m 252 #[.val (.int x1), .val (.int x2), .val (.int x3), .val (.long x4), .second, .val (.int xo), .val (.int xn), .val (.ref b61), .unset] [])) _
      refine XS.iconst X148.here hx rfl (hb hby at_252) ?_
      show Steps p.tables e below (T148.setTop (mkF m 253 #[.val (.int x1), .val (.int x2), .val (.int x3), .val (.long x4), .second, .val (.int xo), .val (.int xn), .val (.ref b61), .unset] [(.int (0 : Int32))])) _
      have qu161 : u161 = (0 : Int32) := by first | (rw [hu161]; simp only [if_pos hj154]; done) | (rw [hu161]; simp [hj154]; done)
      rw [qu161] at k
      exact k
    · refine XS.icmpNo X148.here hx rfl (hb hby at_175) rfl (flt hj154).1 ?_
      show Steps p.tables e below (T148.setTop (mkF m 178 #[.val (.int x1), .val (.int x2), .val (.int x3), .val (.long x4), .second, .val (.int xo), .val (.int xn), .val (.ref b61), .unset] [])) _
      refine XS.aload X148.here hx rfl (hb hby at_178) rfl rfl ?_
      show Steps p.tables e below (T148.setTop (mkF m 180 #[.val (.int x1), .val (.int x2), .val (.int x3), .val (.long x4), .second, .val (.int xo), .val (.int xn), .val (.ref b61), .unset] [(.ref b61)])) _
      refine XS.iload X148.here hx rfl (hb hby at_180) rfl ?_
      show Steps p.tables e below (T148.setTop (mkF m 182 #[.val (.int x1), .val (.int x2), .val (.int x3), .val (.long x4), .second, .val (.int xo), .val (.int xn), .val (.ref b61), .unset] [(.int xo), (.ref b61)])) _
      refine X148.baloadBytes hx (j := xo) (v := (.int (atv cl148 xo))) TB148.1.1 (State.isArrayOf_alike hZ.alike TB148.1.2.1) TB148.1.2.2 hb0 (TB148.2.2.2 _ hb0) (g := (mkF m 182 #[.val (.int x1), .val (.int x2), .val (.int x3), .val (.long x4), .second, .val (.int xo), .val (.int xn), .val (.ref b61), .unset] [(.int xo), (.ref b61)])) rfl rfl (hb hby at_182) _ ?_
      show Steps p.tables e below (T148.setTop (mkF m 183 #[.val (.int x1), .val (.int x2), .val (.int x3), .val (.long x4), .second, .val (.int xo), .val (.int xn), .val (.ref b61), .unset] [(.int (atv cl148 xo))])) _
      refine XS.bipush X148.here hx rfl (hb hby at_183) ?_
      show Steps p.tables e below (T148.setTop (mkF m 185 #[.val (.int x1), .val (.int x2), .val (.int x3), .val (.long x4), .second, .val (.int xo), .val (.int xn), .val (.ref b61), .unset] [(.int (60 : Int32)), (.int (atv cl148 xo))])) _
      by_cases hj155 : (atv cl148 xo) = (60 : Int32)
      · refine XS.icmpNo X148.here hx rfl (hb hby at_185) rfl (teq hj155).2 ?_
        show Steps p.tables e below (T148.setTop (mkF m 188 #[.val (.int x1), .val (.int x2), .val (.int x3), .val (.long x4), .second, .val (.int xo), .val (.int xn), .val (.ref b61), .unset] [])) _
        refine XS.aload X148.here hx rfl (hb hby at_188) rfl rfl ?_
        show Steps p.tables e below (T148.setTop (mkF m 190 #[.val (.int x1), .val (.int x2), .val (.int x3), .val (.long x4), .second, .val (.int xo), .val (.int xn), .val (.ref b61), .unset] [(.ref b61)])) _
        refine XS.iload X148.here hx rfl (hb hby at_190) rfl ?_
        show Steps p.tables e below (T148.setTop (mkF m 192 #[.val (.int x1), .val (.int x2), .val (.int x3), .val (.long x4), .second, .val (.int xo), .val (.int xn), .val (.ref b61), .unset] [(.int xo), (.ref b61)])) _
        refine XS.iconst X148.here hx rfl (hb hby at_192) ?_
        show Steps p.tables e below (T148.setTop (mkF m 193 #[.val (.int x1), .val (.int x2), .val (.int x3), .val (.long x4), .second, .val (.int xo), .val (.int xn), .val (.ref b61), .unset] [(.int (1 : Int32)), (.int xo), (.ref b61)])) _
        refine XS.iadd X148.here hx rfl (hb hby at_193) rfl ?_
        show Steps p.tables e below (T148.setTop (mkF m 194 #[.val (.int x1), .val (.int x2), .val (.int x3), .val (.long x4), .second, .val (.int xo), .val (.int xn), .val (.ref b61), .unset] [(.int (xo + (1 : Int32))), (.ref b61)])) _
        refine X148.baloadBytes hx (j := (xo + (1 : Int32))) (v := (.int (atv cl148 (xo + (1 : Int32))))) TB148.1.1 (State.isArrayOf_alike hZ.alike TB148.1.2.1) TB148.1.2.2 hb1 (TB148.2.2.2 _ hb1) (g := (mkF m 194 #[.val (.int x1), .val (.int x2), .val (.int x3), .val (.long x4), .second, .val (.int xo), .val (.int xn), .val (.ref b61), .unset] [(.int (xo + (1 : Int32))), (.ref b61)])) rfl rfl (hb hby at_194) _ ?_
        show Steps p.tables e below (T148.setTop (mkF m 195 #[.val (.int x1), .val (.int x2), .val (.int x3), .val (.long x4), .second, .val (.int xo), .val (.int xn), .val (.ref b61), .unset] [(.int (atv cl148 (xo + (1 : Int32))))])) _
        refine XS.bipush X148.here hx rfl (hb hby at_195) ?_
        show Steps p.tables e below (T148.setTop (mkF m 197 #[.val (.int x1), .val (.int x2), .val (.int x3), .val (.long x4), .second, .val (.int xo), .val (.int xn), .val (.ref b61), .unset] [(.int (56 : Int32)), (.int (atv cl148 (xo + (1 : Int32))))])) _
        by_cases hj156 : (atv cl148 (xo + (1 : Int32))) = (56 : Int32)
        · refine XS.icmpNo X148.here hx rfl (hb hby at_197) rfl (teq hj156).2 ?_
          show Steps p.tables e below (T148.setTop (mkF m 200 #[.val (.int x1), .val (.int x2), .val (.int x3), .val (.long x4), .second, .val (.int xo), .val (.int xn), .val (.ref b61), .unset] [])) _
          refine XS.aload X148.here hx rfl (hb hby at_200) rfl rfl ?_
          show Steps p.tables e below (T148.setTop (mkF m 202 #[.val (.int x1), .val (.int x2), .val (.int x3), .val (.long x4), .second, .val (.int xo), .val (.int xn), .val (.ref b61), .unset] [(.ref b61)])) _
          refine XS.iload X148.here hx rfl (hb hby at_202) rfl ?_
          show Steps p.tables e below (T148.setTop (mkF m 204 #[.val (.int x1), .val (.int x2), .val (.int x3), .val (.long x4), .second, .val (.int xo), .val (.int xn), .val (.ref b61), .unset] [(.int xo), (.ref b61)])) _
          refine XS.iconst X148.here hx rfl (hb hby at_204) ?_
          show Steps p.tables e below (T148.setTop (mkF m 205 #[.val (.int x1), .val (.int x2), .val (.int x3), .val (.long x4), .second, .val (.int xo), .val (.int xn), .val (.ref b61), .unset] [(.int (2 : Int32)), (.int xo), (.ref b61)])) _
          refine XS.iadd X148.here hx rfl (hb hby at_205) rfl ?_
          show Steps p.tables e below (T148.setTop (mkF m 206 #[.val (.int x1), .val (.int x2), .val (.int x3), .val (.long x4), .second, .val (.int xo), .val (.int xn), .val (.ref b61), .unset] [(.int (xo + (2 : Int32))), (.ref b61)])) _
          refine X148.baloadBytes hx (j := (xo + (2 : Int32))) (v := (.int (atv cl148 (xo + (2 : Int32))))) TB148.1.1 (State.isArrayOf_alike hZ.alike TB148.1.2.1) TB148.1.2.2 hb2 (TB148.2.2.2 _ hb2) (g := (mkF m 206 #[.val (.int x1), .val (.int x2), .val (.int x3), .val (.long x4), .second, .val (.int xo), .val (.int xn), .val (.ref b61), .unset] [(.int (xo + (2 : Int32))), (.ref b61)])) rfl rfl (hb hby at_206) _ ?_
          show Steps p.tables e below (T148.setTop (mkF m 207 #[.val (.int x1), .val (.int x2), .val (.int x3), .val (.long x4), .second, .val (.int xo), .val (.int xn), .val (.ref b61), .unset] [(.int (atv cl148 (xo + (2 : Int32))))])) _
          refine XS.bipush X148.here hx rfl (hb hby at_207) ?_
          show Steps p.tables e below (T148.setTop (mkF m 209 #[.val (.int x1), .val (.int x2), .val (.int x3), .val (.long x4), .second, .val (.int xo), .val (.int xn), .val (.ref b61), .unset] [(.int (53 : Int32)), (.int (atv cl148 (xo + (2 : Int32))))])) _
          by_cases hj157 : (atv cl148 (xo + (2 : Int32))) = (53 : Int32)
          · refine XS.icmpNo X148.here hx rfl (hb hby at_209) rfl (teq hj157).2 ?_
            show Steps p.tables e below (T148.setTop (mkF m 212 #[.val (.int x1), .val (.int x2), .val (.int x3), .val (.long x4), .second, .val (.int xo), .val (.int xn), .val (.ref b61), .unset] [])) _
            refine XS.aload X148.here hx rfl (hb hby at_212) rfl rfl ?_
            show Steps p.tables e below (T148.setTop (mkF m 214 #[.val (.int x1), .val (.int x2), .val (.int x3), .val (.long x4), .second, .val (.int xo), .val (.int xn), .val (.ref b61), .unset] [(.ref b61)])) _
            refine XS.iload X148.here hx rfl (hb hby at_214) rfl ?_
            show Steps p.tables e below (T148.setTop (mkF m 216 #[.val (.int x1), .val (.int x2), .val (.int x3), .val (.long x4), .second, .val (.int xo), .val (.int xn), .val (.ref b61), .unset] [(.int xo), (.ref b61)])) _
            refine XS.iconst X148.here hx rfl (hb hby at_216) ?_
            show Steps p.tables e below (T148.setTop (mkF m 217 #[.val (.int x1), .val (.int x2), .val (.int x3), .val (.long x4), .second, .val (.int xo), .val (.int xn), .val (.ref b61), .unset] [(.int (3 : Int32)), (.int xo), (.ref b61)])) _
            refine XS.iadd X148.here hx rfl (hb hby at_217) rfl ?_
            show Steps p.tables e below (T148.setTop (mkF m 218 #[.val (.int x1), .val (.int x2), .val (.int x3), .val (.long x4), .second, .val (.int xo), .val (.int xn), .val (.ref b61), .unset] [(.int (xo + (3 : Int32))), (.ref b61)])) _
            refine X148.baloadBytes hx (j := (xo + (3 : Int32))) (v := (.int (atv cl148 (xo + (3 : Int32))))) TB148.1.1 (State.isArrayOf_alike hZ.alike TB148.1.2.1) TB148.1.2.2 hb3 (TB148.2.2.2 _ hb3) (g := (mkF m 218 #[.val (.int x1), .val (.int x2), .val (.int x3), .val (.long x4), .second, .val (.int xo), .val (.int xn), .val (.ref b61), .unset] [(.int (xo + (3 : Int32))), (.ref b61)])) rfl rfl (hb hby at_218) _ ?_
            show Steps p.tables e below (T148.setTop (mkF m 219 #[.val (.int x1), .val (.int x2), .val (.int x3), .val (.long x4), .second, .val (.int xo), .val (.int xn), .val (.ref b61), .unset] [(.int (atv cl148 (xo + (3 : Int32))))])) _
            refine XS.bipush X148.here hx rfl (hb hby at_219) ?_
            show Steps p.tables e below (T148.setTop (mkF m 221 #[.val (.int x1), .val (.int x2), .val (.int x3), .val (.long x4), .second, .val (.int xo), .val (.int xn), .val (.ref b61), .unset] [(.int (62 : Int32)), (.int (atv cl148 (xo + (3 : Int32))))])) _
            by_cases hj158 : (atv cl148 (xo + (3 : Int32))) = (62 : Int32)
            · refine XS.icmpNo X148.here hx rfl (hb hby at_221) rfl (teq hj158).2 ?_
              show Steps p.tables e below (T148.setTop (mkF m 224 #[.val (.int x1), .val (.int x2), .val (.int x3), .val (.long x4), .second, .val (.int xo), .val (.int xn), .val (.ref b61), .unset] [])) _
              refine XS.aload X148.here hx rfl (hb hby at_224) rfl rfl ?_
              show Steps p.tables e below (T148.setTop (mkF m 226 #[.val (.int x1), .val (.int x2), .val (.int x3), .val (.long x4), .second, .val (.int xo), .val (.int xn), .val (.ref b61), .unset] [(.ref b61)])) _
              refine XS.iload X148.here hx rfl (hb hby at_226) rfl ?_
              show Steps p.tables e below (T148.setTop (mkF m 228 #[.val (.int x1), .val (.int x2), .val (.int x3), .val (.long x4), .second, .val (.int xo), .val (.int xn), .val (.ref b61), .unset] [(.int xo), (.ref b61)])) _
              refine XS.iconst X148.here hx rfl (hb hby at_228) ?_
              show Steps p.tables e below (T148.setTop (mkF m 229 #[.val (.int x1), .val (.int x2), .val (.int x3), .val (.long x4), .second, .val (.int xo), .val (.int xn), .val (.ref b61), .unset] [(.int (4 : Int32)), (.int xo), (.ref b61)])) _
              refine XS.iadd X148.here hx rfl (hb hby at_229) rfl ?_
              show Steps p.tables e below (T148.setTop (mkF m 230 #[.val (.int x1), .val (.int x2), .val (.int x3), .val (.long x4), .second, .val (.int xo), .val (.int xn), .val (.ref b61), .unset] [(.int (xo + (4 : Int32))), (.ref b61)])) _
              refine X148.baloadBytes hx (j := (xo + (4 : Int32))) (v := (.int (atv cl148 (xo + (4 : Int32))))) TB148.1.1 (State.isArrayOf_alike hZ.alike TB148.1.2.1) TB148.1.2.2 hb4 (TB148.2.2.2 _ hb4) (g := (mkF m 230 #[.val (.int x1), .val (.int x2), .val (.int x3), .val (.long x4), .second, .val (.int xo), .val (.int xn), .val (.ref b61), .unset] [(.int (xo + (4 : Int32))), (.ref b61)])) rfl rfl (hb hby at_230) _ ?_
              show Steps p.tables e below (T148.setTop (mkF m 231 #[.val (.int x1), .val (.int x2), .val (.int x3), .val (.long x4), .second, .val (.int xo), .val (.int xn), .val (.ref b61), .unset] [(.int (atv cl148 (xo + (4 : Int32))))])) _
              refine XS.bipush X148.here hx rfl (hb hby at_231) ?_
              show Steps p.tables e below (T148.setTop (mkF m 233 #[.val (.int x1), .val (.int x2), .val (.int x3), .val (.long x4), .second, .val (.int xo), .val (.int xn), .val (.ref b61), .unset] [(.int (49 : Int32)), (.int (atv cl148 (xo + (4 : Int32))))])) _
              by_cases hj159 : (atv cl148 (xo + (4 : Int32))) = (49 : Int32)
              · refine XS.icmpNo X148.here hx rfl (hb hby at_233) rfl (teq hj159).2 ?_
                show Steps p.tables e below (T148.setTop (mkF m 236 #[.val (.int x1), .val (.int x2), .val (.int x3), .val (.long x4), .second, .val (.int xo), .val (.int xn), .val (.ref b61), .unset] [])) _
                refine XS.aload X148.here hx rfl (hb hby at_236) rfl rfl ?_
                show Steps p.tables e below (T148.setTop (mkF m 238 #[.val (.int x1), .val (.int x2), .val (.int x3), .val (.long x4), .second, .val (.int xo), .val (.int xn), .val (.ref b61), .unset] [(.ref b61)])) _
                refine XS.iload X148.here hx rfl (hb hby at_238) rfl ?_
                show Steps p.tables e below (T148.setTop (mkF m 240 #[.val (.int x1), .val (.int x2), .val (.int x3), .val (.long x4), .second, .val (.int xo), .val (.int xn), .val (.ref b61), .unset] [(.int xo), (.ref b61)])) _
                refine XS.iconst X148.here hx rfl (hb hby at_240) ?_
                show Steps p.tables e below (T148.setTop (mkF m 241 #[.val (.int x1), .val (.int x2), .val (.int x3), .val (.long x4), .second, .val (.int xo), .val (.int xn), .val (.ref b61), .unset] [(.int (5 : Int32)), (.int xo), (.ref b61)])) _
                refine XS.iadd X148.here hx rfl (hb hby at_241) rfl ?_
                show Steps p.tables e below (T148.setTop (mkF m 242 #[.val (.int x1), .val (.int x2), .val (.int x3), .val (.long x4), .second, .val (.int xo), .val (.int xn), .val (.ref b61), .unset] [(.int (xo + (5 : Int32))), (.ref b61)])) _
                refine X148.baloadBytes hx (j := (xo + (5 : Int32))) (v := (.int (atv cl148 (xo + (5 : Int32))))) TB148.1.1 (State.isArrayOf_alike hZ.alike TB148.1.2.1) TB148.1.2.2 hb5 (TB148.2.2.2 _ hb5) (g := (mkF m 242 #[.val (.int x1), .val (.int x2), .val (.int x3), .val (.long x4), .second, .val (.int xo), .val (.int xn), .val (.ref b61), .unset] [(.int (xo + (5 : Int32))), (.ref b61)])) rfl rfl (hb hby at_242) _ ?_
                show Steps p.tables e below (T148.setTop (mkF m 243 #[.val (.int x1), .val (.int x2), .val (.int x3), .val (.long x4), .second, .val (.int xo), .val (.int xn), .val (.ref b61), .unset] [(.int (atv cl148 (xo + (5 : Int32))))])) _
                refine XS.bipush X148.here hx rfl (hb hby at_243) ?_
                show Steps p.tables e below (T148.setTop (mkF m 245 #[.val (.int x1), .val (.int x2), .val (.int x3), .val (.long x4), .second, .val (.int xo), .val (.int xn), .val (.ref b61), .unset] [(.int (32 : Int32)), (.int (atv cl148 (xo + (5 : Int32))))])) _
                by_cases hj160 : (atv cl148 (xo + (5 : Int32))) = (32 : Int32)
                · refine XS.icmpNo X148.here hx rfl (hb hby at_245) rfl (teq hj160).2 ?_
                  show Steps p.tables e below (T148.setTop (mkF m 248 #[.val (.int x1), .val (.int x2), .val (.int x3), .val (.long x4), .second, .val (.int xo), .val (.int xn), .val (.ref b61), .unset] [])) _
                  refine XS.iconst X148.here hx rfl (hb hby at_248) ?_
                  show Steps p.tables e below (T148.setTop (mkF m 249 #[.val (.int x1), .val (.int x2), .val (.int x3), .val (.long x4), .second, .val (.int xo), .val (.int xn), .val (.ref b61), .unset] [(.int (1 : Int32))])) _
                  refine XS.goto X148.here hx rfl (pc0 := 249) (pc' := 253) rfl (hb hby at_249) (by decide) (by decide) ?_
                  show Steps p.tables e below (T148.setTop (mkF m 253 #[.val (.int x1), .val (.int x2), .val (.int x3), .val (.long x4), .second, .val (.int xo), .val (.int xn), .val (.ref b61), .unset] [(.int (1 : Int32))])) _
                  have qu161 : u161 = (1 : Int32) := by first | (rw [hu161]; simp only [if_neg hj154, if_pos hj155, if_pos hj156, if_pos hj157, if_pos hj158, if_pos hj159, if_pos hj160]; done) | (rw [hu161]; simp [hj154, hj155, hj156, hj157, hj158, hj159, hj160]; done)
                  rw [qu161] at k
                  exact k
                · refine XS.icmpYes X148.here hx rfl (pc0 := 245) (pc' := 252) rfl (hb hby at_245) rfl (feq hj160).2 (by decide) (by decide) ?_
                  show Steps p.tables e below (T148.setTop (mkF m 252 #[.val (.int x1), .val (.int x2), .val (.int x3), .val (.long x4), .second, .val (.int xo), .val (.int xn), .val (.ref b61), .unset] [])) _
                  refine XS.iconst X148.here hx rfl (hb hby at_252) ?_
                  show Steps p.tables e below (T148.setTop (mkF m 253 #[.val (.int x1), .val (.int x2), .val (.int x3), .val (.long x4), .second, .val (.int xo), .val (.int xn), .val (.ref b61), .unset] [(.int (0 : Int32))])) _
                  have qu161 : u161 = (0 : Int32) := by first | (rw [hu161]; simp only [if_neg hj154, if_pos hj155, if_pos hj156, if_pos hj157, if_pos hj158, if_pos hj159, if_neg hj160]; done) | (rw [hu161]; simp [hj154, hj155, hj156, hj157, hj158, hj159, hj160]; done)
                  rw [qu161] at k
                  exact k
              · refine XS.icmpYes X148.here hx rfl (pc0 := 233) (pc' := 252) rfl (hb hby at_233) rfl (feq hj159).2 (by decide) (by decide) ?_
                show Steps p.tables e below (T148.setTop (mkF m 252 #[.val (.int x1), .val (.int x2), .val (.int x3), .val (.long x4), .second, .val (.int xo), .val (.int xn), .val (.ref b61), .unset] [])) _
                refine XS.iconst X148.here hx rfl (hb hby at_252) ?_
                show Steps p.tables e below (T148.setTop (mkF m 253 #[.val (.int x1), .val (.int x2), .val (.int x3), .val (.long x4), .second, .val (.int xo), .val (.int xn), .val (.ref b61), .unset] [(.int (0 : Int32))])) _
                have qu161 : u161 = (0 : Int32) := by first | (rw [hu161]; simp only [if_neg hj154, if_pos hj155, if_pos hj156, if_pos hj157, if_pos hj158, if_neg hj159]; done) | (rw [hu161]; simp [hj154, hj155, hj156, hj157, hj158, hj159]; done)
                rw [qu161] at k
                exact k
            · refine XS.icmpYes X148.here hx rfl (pc0 := 221) (pc' := 252) rfl (hb hby at_221) rfl (feq hj158).2 (by decide) (by decide) ?_
              show Steps p.tables e below (T148.setTop (mkF m 252 #[.val (.int x1), .val (.int x2), .val (.int x3), .val (.long x4), .second, .val (.int xo), .val (.int xn), .val (.ref b61), .unset] [])) _
              refine XS.iconst X148.here hx rfl (hb hby at_252) ?_
              show Steps p.tables e below (T148.setTop (mkF m 253 #[.val (.int x1), .val (.int x2), .val (.int x3), .val (.long x4), .second, .val (.int xo), .val (.int xn), .val (.ref b61), .unset] [(.int (0 : Int32))])) _
              have qu161 : u161 = (0 : Int32) := by first | (rw [hu161]; simp only [if_neg hj154, if_pos hj155, if_pos hj156, if_pos hj157, if_neg hj158]; done) | (rw [hu161]; simp [hj154, hj155, hj156, hj157, hj158]; done)
              rw [qu161] at k
              exact k
          · refine XS.icmpYes X148.here hx rfl (pc0 := 209) (pc' := 252) rfl (hb hby at_209) rfl (feq hj157).2 (by decide) (by decide) ?_
            show Steps p.tables e below (T148.setTop (mkF m 252 #[.val (.int x1), .val (.int x2), .val (.int x3), .val (.long x4), .second, .val (.int xo), .val (.int xn), .val (.ref b61), .unset] [])) _
            refine XS.iconst X148.here hx rfl (hb hby at_252) ?_
            show Steps p.tables e below (T148.setTop (mkF m 253 #[.val (.int x1), .val (.int x2), .val (.int x3), .val (.long x4), .second, .val (.int xo), .val (.int xn), .val (.ref b61), .unset] [(.int (0 : Int32))])) _
            have qu161 : u161 = (0 : Int32) := by first | (rw [hu161]; simp only [if_neg hj154, if_pos hj155, if_pos hj156, if_neg hj157]; done) | (rw [hu161]; simp [hj154, hj155, hj156, hj157]; done)
            rw [qu161] at k
            exact k
        · refine XS.icmpYes X148.here hx rfl (pc0 := 197) (pc' := 252) rfl (hb hby at_197) rfl (feq hj156).2 (by decide) (by decide) ?_
          show Steps p.tables e below (T148.setTop (mkF m 252 #[.val (.int x1), .val (.int x2), .val (.int x3), .val (.long x4), .second, .val (.int xo), .val (.int xn), .val (.ref b61), .unset] [])) _
          refine XS.iconst X148.here hx rfl (hb hby at_252) ?_
          show Steps p.tables e below (T148.setTop (mkF m 253 #[.val (.int x1), .val (.int x2), .val (.int x3), .val (.long x4), .second, .val (.int xo), .val (.int xn), .val (.ref b61), .unset] [(.int (0 : Int32))])) _
          have qu161 : u161 = (0 : Int32) := by first | (rw [hu161]; simp only [if_neg hj154, if_pos hj155, if_neg hj156]; done) | (rw [hu161]; simp [hj154, hj155, hj156]; done)
          rw [qu161] at k
          exact k
      · refine XS.icmpYes X148.here hx rfl (pc0 := 185) (pc' := 252) rfl (hb hby at_185) rfl (feq hj155).2 (by decide) (by decide) ?_
        show Steps p.tables e below (T148.setTop (mkF m 252 #[.val (.int x1), .val (.int x2), .val (.int x3), .val (.long x4), .second, .val (.int xo), .val (.int xn), .val (.ref b61), .unset] [])) _
        refine XS.iconst X148.here hx rfl (hb hby at_252) ?_
        show Steps p.tables e below (T148.setTop (mkF m 253 #[.val (.int x1), .val (.int x2), .val (.int x3), .val (.long x4), .second, .val (.int xo), .val (.int xn), .val (.ref b61), .unset] [(.int (0 : Int32))])) _
        have qu161 : u161 = (0 : Int32) := by first | (rw [hu161]; simp only [if_neg hj154, if_neg hj155]; done) | (rw [hu161]; simp [hj154, hj155]; done)
        rw [qu161] at k
        exact k
  have A163 : ∀ t, Steps p.tables e below (T148.setTop (mkF m 261 #[.val (.int x1), .val (.int x2), .val (.int x3), .val (.long x4), .second, .val (.int xo), .val (.int xn), .val (.ref b61), .val (.int u161)] [(.int xn), (.int xo), (.ref b61)])) t → Steps p.tables e below (s₁.setTop (entryFrame m #[(.int x1), (.int x2), (.int x3), (.long x4)] maxLocals)) t := by
    intro t k
    refine A162 _ ?_
    refine XS.istore X148.here hx rfl (hb hby at_253) rfl (l' := #[.val (.int x1), .val (.int x2), .val (.int x3), .val (.long x4), .second, .val (.int xo), .val (.int xn), .val (.ref b61), .val (.int u161)]) rfl ?_
    show Steps p.tables e below (T148.setTop (mkF m 255 #[.val (.int x1), .val (.int x2), .val (.int x3), .val (.long x4), .second, .val (.int xo), .val (.int xn), .val (.ref b61), .val (.int u161)] [])) _
    refine XS.aload X148.here hx rfl (hb hby at_255) rfl rfl ?_
    show Steps p.tables e below (T148.setTop (mkF m 257 #[.val (.int x1), .val (.int x2), .val (.int x3), .val (.long x4), .second, .val (.int xo), .val (.int xn), .val (.ref b61), .val (.int u161)] [(.ref b61)])) _
    refine XS.iload X148.here hx rfl (hb hby at_257) rfl ?_
    show Steps p.tables e below (T148.setTop (mkF m 259 #[.val (.int x1), .val (.int x2), .val (.int x3), .val (.long x4), .second, .val (.int xo), .val (.int xn), .val (.ref b61), .val (.int u161)] [(.int xo), (.ref b61)])) _
    refine XS.iload X148.here hx rfl (hb hby at_259) rfl ?_
    show Steps p.tables e below (T148.setTop (mkF m 261 #[.val (.int x1), .val (.int x2), .val (.int x3), .val (.long x4), .second, .val (.int xo), .val (.int xn), .val (.ref b61), .val (.int u161)] [(.int xn), (.int xo), (.ref b61)])) _
    exact k
  obtain ⟨_, _, ⟨T164, L164, k164, n164⟩, -, X164, ⟨Lc164, hQ164, l164, y164, z164⟩, st164⟩ := Jvm.LawKit.callS X148 hx (y := (⟨"com/example/auditwright/auditwright/delivery/SyslogFramer", "startsAsRecord", "([BII)Z"⟩ : MethodName)) hown (mvT hZ (hw _ (List.mem_of_getElem? (i := 6) rfl))) (mvT hZ (hw _ (List.mem_of_getElem? (i := 7) rfl))) (mvT hZ (hw _ (List.mem_of_getElem? (i := 8) rfl))) (mvT hZ (hw _ (List.mem_of_getElem? (i := 9) rfl))) (by decide) (backOf (W := 0) (own_srM l Z a0 hw [] b61 va xo xn cl148 cr T148.heap n0 Zs151 TB148 (S0.ext Ol150.2) (TR.ext Ol150.2) r0 r1 r2 r3 r4 r5 ho) hZ (hw _ (List.mem_of_getElem? (i := 9) rfl)) (hw _ (List.mem_of_getElem? (i := 8) rfl)) (by decide) (by decide)) (g := (mkF m 261 #[.val (.int x1), .val (.int x2), .val (.int x3), .val (.long x4), .second, .val (.int xo), .val (.int xn), .val (.ref b61), .val (.int u161)] [(.int xn), (.int xo), (.ref b61)])) rfl (by rw [hml]; rfl) (argsL := [(.ref b61), (.int xo), (.int xn)]) (rest := []) (lenOf own_pd1 rfl) rfl (by show 2 * 0 + _ ≤ _; exact Nat.le_of_eq rfl) (hb hby at_261) (fun _ _ => ⟨rfl, rfl, (by decide : 1 + 0 ≤ _), (by decide : 8 + 0 ≤ _)⟩)
  dsimp only [Pt.U, Pt.locs, Pt.cells, Pt.slots] at X164 l164 y164 z164 st164 hQ164
  subst l164 y164 z164
  obtain ⟨rfl, Nq164, eh164⟩ := hQ164
  have Nf165 := Fr.app Nf149 Nq164
  have A166 : ∀ t, Steps p.tables e below (T164.setTop (mkF m 266 #[.val (.int x1), .val (.int x2), .val (.int x3), .val (.long x4), .second, .val (.int xo), .val (.int xn), .val (.ref b61), .val (.int u161)] [(.int u161), (.int (own_sr xn (atv cl148 (xo + (0 : Int32))) (atv cl148 (xo + (1 : Int32))) (atv cl148 (xo + (2 : Int32))) (atv cl148 (xo + (3 : Int32))) (atv cl148 (xo + (4 : Int32))) (atv cl148 (xo + (5 : Int32)))))])) t → Steps p.tables e below (s₁.setTop (entryFrame m #[(.int x1), (.int x2), (.int x3), (.long x4)] maxLocals)) t := by
    intro t k
    refine A163 _ ?_
    refine st164 _ ?_
    show Steps p.tables e below (T164.setTop (mkF m 264 #[.val (.int x1), .val (.int x2), .val (.int x3), .val (.long x4), .second, .val (.int xo), .val (.int xn), .val (.ref b61), .val (.int u161)] [(.int (own_sr xn (atv cl148 (xo + (0 : Int32))) (atv cl148 (xo + (1 : Int32))) (atv cl148 (xo + (2 : Int32))) (atv cl148 (xo + (3 : Int32))) (atv cl148 (xo + (4 : Int32))) (atv cl148 (xo + (5 : Int32)))))])) _
    refine XS.iload X164.here hx rfl (hb hby at_264) rfl ?_
    show Steps p.tables e below (T164.setTop (mkF m 266 #[.val (.int x1), .val (.int x2), .val (.int x3), .val (.long x4), .second, .val (.int xo), .val (.int xn), .val (.ref b61), .val (.int u161)] [(.int u161), (.int (own_sr xn (atv cl148 (xo + (0 : Int32))) (atv cl148 (xo + (1 : Int32))) (atv cl148 (xo + (2 : Int32))) (atv cl148 (xo + (3 : Int32))) (atv cl148 (xo + (4 : Int32))) (atv cl148 (xo + (5 : Int32)))))])) _
    exact k
  have hq : (own_sr xn (atv cl148 (xo + (0 : Int32))) (atv cl148 (xo + (1 : Int32))) (atv cl148 (xo + (2 : Int32))) (atv cl148 (xo + (3 : Int32))) (atv cl148 (xo + (4 : Int32))) (atv cl148 (xo + (5 : Int32)))) = u161 := by rw [hu161]; simp [own_sr]
  have A167 : ∀ t, Steps p.tables e below (T164.setTop (mkF m 274 #[.val (.int x1), .val (.int x2), .val (.int x3), .val (.long x4), .second, .val (.int xo), .val (.int xn), .val (.ref b61), .val (.int u161)] [(.int (1 : Int32))])) t → Steps p.tables e below (s₁.setTop (entryFrame m #[(.int x1), (.int x2), (.int x3), (.long x4)] maxLocals)) t := by
    intro t k
    refine A166 _ ?_
    refine XS.icmpNo X164.here hx rfl (hb hby at_266) rfl (teq hq).2 ?_
    show Steps p.tables e below (T164.setTop (mkF m 269 #[.val (.int x1), .val (.int x2), .val (.int x3), .val (.long x4), .second, .val (.int xo), .val (.int xn), .val (.ref b61), .val (.int u161)] [])) _
    refine XS.iconst X164.here hx rfl (hb hby at_269) ?_
    show Steps p.tables e below (T164.setTop (mkF m 270 #[.val (.int x1), .val (.int x2), .val (.int x3), .val (.long x4), .second, .val (.int xo), .val (.int xn), .val (.ref b61), .val (.int u161)] [(.int (1 : Int32))])) _
    refine XS.goto X164.here hx rfl (pc0 := 270) (pc' := 274) rfl (hb hby at_270) (by decide) (by decide) ?_
    show Steps p.tables e below (T164.setTop (mkF m 274 #[.val (.int x1), .val (.int x2), .val (.int x3), .val (.long x4), .second, .val (.int xo), .val (.int xn), .val (.ref b61), .val (.int u161)] [(.int (1 : Int32))])) _
    exact k
  obtain ⟨fs, hr, hrun, hended, hW, hsame⟩ := X164.leave (v := some (.int (1 : Int32))) (fun h => by rw [Bd.returns] at h; cases h)
  refine ⟨_, _, A167 _ ?_, hrun, hended, _, _, rfl, ?_, ⟨_, rfl⟩, hW, hsame.mono (by decide) (by decide)⟩
  · exact retN X164 hx (t := .boolean) Bd.returns (by simp) (hb hby at_274) hr
  · show own_Q0 Z x1 x2 x3 x4 h0 n0 _ T164.heap _
    rw [eh164]
    exact ⟨rfl, Nf165⟩
set_option maxRecDepth 65536 in
set_option maxHeartbeats 40000000 in
theorem comes_1 {Post : Tables → Env → Array Value → State → Outcome → State → Prop} (hpost : ∀ tb e args s v u, (limb_1_1.after args s (.returned v) u = true ∧ limb_1_2.after args s (.returned v) u = true ∧ True) → FrameEnd s (.returned v) u (Jvm.fieldLocs frame_1_writes args s ++ Jvm.arrayLocs frame_1_arrays args s ++ Jvm.staticLocs frame_1_statics s) 16 128 → Post tb e args s (.returned v) u) :
    ArmFor flags0 classFile x code maxLocals ret World_1 tables_1 room_1 Calls_1 rest_1 Pre_1 Post := by
  intro l hfl _ _ p e ha hc hk s m args below hf hA hF happ hP
  obtain ⟨hcalls, hrest, hpre⟩ := hP
  obtain ⟨-, -, -, hnamed, -, -, -, hat⟩ := (Spec.applies_iff hf).mp happ
  obtain ⟨hg, hn⟩ := and_e (Cond.before_iff.mp (show (Jvm.Cond.and given_1 narrow_1).before args s = true from hpre))
  obtain ⟨hcount, hg⟩ := and_e hg
  obtain ⟨ga0, hg⟩ := and_e hg
  obtain ⟨ga1, hg⟩ := and_e hg
  obtain ⟨ga2, hg⟩ := and_e hg
  have ga3 := hg
  obtain ⟨w0, w1, w2, w3, rfl⟩ : ∃ w0 w1 w2 w3 : Value, args = #[w0, w1, w2, w3] := by
    have hs : args.size = 4 := by simpa [Cond.value, given_1] using hcount
    obtain ⟨L⟩ := args
    match L, hs with
    | [w0, w1, w2, w3], _ => exact ⟨w0, w1, w2, w3, rfl⟩
  have hw := fun d (hd : d ∈ tables_1) => atoms_spec (ws := Jvm.Cond.code x code maxLocals ret :: tables_1) hat d (List.mem_cons_of_mem _ hd)
  have hfit : Fit s := fun {y c} hc i hi => by
    obtain ⟨ha, rfl⟩ := Array.getElem?_eq_some_iff.mp hc
    have q := List.all_eq_true.mp ((Array.all_eq_true_iff_forall_mem.mp hF) _ (Array.getElem_mem ha)) i (List.mem_range.mpr hi)
    simpa [Array.getElem?_eq_getElem hi] using q
  obtain ⟨i0, ei0⟩ := is_v ga0
  obtain rfl : w0 = (.int i0) := Option.some.inj ei0
  obtain ⟨i1, ei1⟩ := is_v ga1
  obtain rfl : w1 = (.int i1) := Option.some.inj ei1
  obtain ⟨i2, ei2⟩ := is_v ga2
  obtain rfl : w2 = (.int i2) := Option.some.inj ei2
  obtain ⟨i3, ei3⟩ := isL_v ga3
  obtain rfl : w3 = (.long i3) := Option.some.inj ei3
  obtain ⟨c0, hn⟩ := and_e hn
  obtain ⟨c1, hn⟩ := and_e hn
  obtain ⟨c2, hn⟩ := and_e hn
  obtain ⟨c3, hn⟩ := and_e hn
  obtain ⟨c4, hn⟩ := and_e hn
  obtain ⟨c5, hn⟩ := and_e hn
  obtain ⟨c6, hn⟩ := and_e hn
  have c7 := hn
  obtain ⟨va, ev⟩ := arr_v c0
  obtain ⟨cr, Ar⟩ := Arr.start ev c0
  have S0 := Sta.start ev (Or.inr ⟨(hw _ (List.mem_of_getElem? (i := 8) rfl)), (hw _ (List.mem_of_getElem? (i := 11) rfl))⟩)
  have hal := (State.Warmed39.refl s).alike
  have hat2 := Arr.fin hal Ar
  obtain ⟨hl31, hl6⟩ := own_len ev hat2 (Cond.eq_int (Cond.before_iff.mpr c1) rfl)
  have TR := Tab.start hfit Ar (by simp) hl31 hl6 (by decide)
  have r0 := own_at ev hat2 (by decide) c2
  have r1 := own_at ev hat2 (by decide) c3
  have r2 := own_at ev hat2 (by decide) c4
  have r3 := own_at ev hat2 (by decide) c5
  have r4 := own_at ev hat2 (by decide) c6
  have r5 := own_at ev hat2 (by decide) c7
  obtain ⟨n, o, h1, h2, h3, _, L, rfl, ⟨rfl, N⟩, hq⟩ := own_law l s _ hw tables_1 i0 i1 i2 i3 va cr s.heap s.heap.size (Nat.le_refl _) S0 TR r0 r1 r2 r3 r4 r5 (Old.start s) p e ha hc hk s m _ below hf ((Spec.applies_iff_loose hf).mp happ).1 ⟨rfl, State.Warmed39.refl s, rfl⟩ trivial
  refine ⟨n, _, h1, h2, h3, hpost _ _ _ _ _ _ ⟨Cond.after_iff.mpr rfl, Cond.after_iff.mpr (eq_i res_at (Term.int_eval (1)) rfl), trivial⟩ ⟨hq.1, hq.2.1, (hq.2.2.sift fun y hy => Or.inr (N y hy)).mono (by decide) (by decide)⟩⟩
theorem main_1_1 : Claimed_1_1 := comes_1 fun _ _ _ _ _ _ h hF => ⟨h.1, hF⟩
theorem main_1_2 : Claimed_1_2 := comes_1 fun _ _ _ _ _ _ h hF => ⟨h.2.1, hF⟩
end Jvm.Pilot.@@N@@
namespace Jvm.Pilot.@@N@@
open Jvm Jvm.ClassFile Sem Op Lib Jvm.Free Jvm.Stand Jvm.Pilot.@@N@@.Jvm.D
/-! MADE BY PROGRAM (witnessworld.py) out of the Statement's table words and the real class files: 9 classes; the members and pool entries that the words name. The judged class is class 1, her method 1. -/
namespace start1
open Jvm.ClassFile
def u (s : String) : CpInfo := .utf8 (stringToUtf16 s)
/-- a pool by its gaps: so many unusable entries, then the entry; so many at the end -/
def gap : Nat → List CpInfo → List CpInfo
  | 0, r => r
  | n + 1, r => .unusable :: gap n r
def poolList (es : List (Nat × CpInfo)) (last : Nat) : List CpInfo := es.foldr (fun e r => gap e.1 (e.2 :: r)) (gap last [])
def pool (es : List (Nat × CpInfo)) (last : Nat) : Array CpInfo := ⟨poolList es last⟩
def fileOf (pool : Array CpInfo) (this : Nat) (attrs : Array Attribute := #[]) (ms : Array MethodInfo := #[]) (fl : Nat := 33) (sup : Nat := 0) (ifs : Array Nat := #[]) (fds : Array FieldInfo := #[]) : ClassFile where
  minorVersion := 0
  majorVersion := 65
  constantPool := pool
  accessFlags := fl
  thisClass := this
  superClass := sup
  interfaces := ifs
  fields := fds
  methods := ms
  attributes := attrs
def plain (name : String) (sup : Option ClassId) : Class where
  name := name
  kind := .ordinary
  loader := none
  accessFlags := 33
  super := sup
  interfaces := #[]
  cf := none
  fields := #[]
  methods := #[]
  instanceTypes := #[]
  staticTypes := #[]
  resolved := #[]
  callSites := []
  init := .initialized
  statics := none
  mirror := none

def pool0 : Array CpInfo := pool [(5, u "<init>"), (0, u "()V"), (1, .class_ 10), (1, u "java/lang/Object")] 113

def k0m0 : Method := { name := "<init>", desc := "()V", sig := { parameters := [], returnType := none }, accessFlags := 1, code := none }
/-- java/lang/Object -/
def k0 : Class := { plain "java/lang/Object" none with
  accessFlags := 33
  interfaces := #[]
  cf := some (fileOf pool0 8 #[] #[{ accessFlags := 1, nameIndex := 5, descriptorIndex := 6, attributes := #[] }] 33 0 #[] #[])
  fields := #[]
  methods := #[k0m0]
  instanceTypes := #[]
  staticTypes := #[]
  resolved := Array.replicate 124 none
  statics := none }

def pool1 : Array CpInfo := pool [(2, .class_ 4), (1, u "java/lang/Object"), (0, u "<init>"), (0, u "()V"), (0, .integer 2147483647), (0, .methodref 9 10), (0, .class_ 11), (0, .nameAndType 12 13), (0, u "com/example/auditwright/auditwright/delivery/SyslogFramerStartsAsRecordPinLaw"), (0, u "put"), (0, u "([BIIIC)V"), (0, .methodref 15 16), (0, .class_ 17), (0, .nameAndType 18 19), (0, u "com/example/auditwright/auditwright/delivery/SyslogFramer"), (0, u "startsAsRecord"), (0, u "([BII)Z"), (2, u "law"), (0, u "(IIIJ)Z")] 5

def k1m0 : Method := { name := "<init>", desc := "()V", sig := { parameters := [], returnType := none }, accessFlags := 2, code := none }
def k1c1 : Code := { maxStack := 5, maxLocals := 9, code := code, exceptionTable := #[], attributes := #[] }
def k1m1 : Method := { name := "law", desc := "(IIIJ)Z", sig := { parameters := [.int, .int, .int, .long], returnType := some .boolean }, accessFlags := 9, code := some k1c1 }
def k1c2 : Code := { maxStack := 3, maxLocals := 5, code := method_3_code, exceptionTable := #[], attributes := #[] }
def k1m2 : Method := { name := "put", desc := "([BIIIC)V", sig := { parameters := [(.array .byte), .int, .int, .int, .char], returnType := none }, accessFlags := 10, code := some k1c2 }
/-- com/example/auditwright/auditwright/delivery/SyslogFramerStartsAsRecordPinLaw -/
def k1 : Class := { plain "com/example/auditwright/auditwright/delivery/SyslogFramerStartsAsRecordPinLaw" (some 0) with
  accessFlags := 49
  interfaces := #[]
  cf := some (fileOf pool1 9 #[] #[{ accessFlags := 2, nameIndex := 5, descriptorIndex := 6, attributes := #[] }, { accessFlags := 9, nameIndex := 22, descriptorIndex := 23, attributes := #[] }, { accessFlags := 10, nameIndex := 12, descriptorIndex := 13, attributes := #[] }] 49 2 #[] #[])
  fields := #[]
  methods := #[k1m0, k1m1, k1m2]
  instanceTypes := #[]
  staticTypes := #[]
  resolved := Array.replicate 29 none
  statics := none }

def pool2 : Array CpInfo := pool [(1, .class_ 2), (0, u "com/example/auditwright/auditwright/delivery/SyslogFramer"), (1, .class_ 6), (1, u "java/lang/Object"), (43, u "afterTimestamp"), (0, u "Ljava/lang/String;"), (58, .fieldref 1 111), (0, .nameAndType 112 113), (0, u "RECORD_START"), (0, u "[B"), (11, .class_ 127), (1, u "com/example/auditwright/auditwright/delivery/SyslogFramer$Header"), (22, u "last"), (0, u "Lcom/example/auditwright/auditwright/delivery/SyslogFramer$Header;"), (63, u "DEFAULT_APP_NAME"), (3, u "PRIORITY_AND_VERSION"), (0, u "MESSAGE_ID"), (0, u "NILVALUE"), (0, u "NO_STRUCTURED_DATA"), (0, u "LONGEST_HOST_NAME"), (0, u "I"), (1, u "LONGEST_APP_NAME"), (1, u "MILLISECONDS"), (1, u "MILLISECOND_DIGITS"), (8, u "startsAsRecord"), (0, u "([BII)Z")] 22

def k2c0 : Code := { maxStack := 3, maxLocals := 5, code := prog_79_method_5_code, exceptionTable := #[], attributes := #[] }
def k2m0 : Method := { name := "startsAsRecord", desc := "([BII)Z", sig := { parameters := [(.array .byte), .int, .int], returnType := some .boolean }, accessFlags := 8, code := some k2c0 }
/-- com/example/auditwright/auditwright/delivery/SyslogFramer -/
def k2 : Class := { plain "com/example/auditwright/auditwright/delivery/SyslogFramer" (some 0) with
  accessFlags := 49
  interfaces := #[]
  cf := some (fileOf pool2 1 #[.nestMembers #[125]] #[{ accessFlags := 8, nameIndex := 239, descriptorIndex := 240, attributes := #[] }] 49 4 #[] #[{ accessFlags := 25, nameIndex := 215, descriptorIndex := 51, attributes := #[] }, { accessFlags := 26, nameIndex := 219, descriptorIndex := 51, attributes := #[] }, { accessFlags := 26, nameIndex := 220, descriptorIndex := 51, attributes := #[] }, { accessFlags := 26, nameIndex := 221, descriptorIndex := 51, attributes := #[] }, { accessFlags := 26, nameIndex := 222, descriptorIndex := 51, attributes := #[] }, { accessFlags := 26, nameIndex := 112, descriptorIndex := 113, attributes := #[] }, { accessFlags := 26, nameIndex := 223, descriptorIndex := 224, attributes := #[] }, { accessFlags := 26, nameIndex := 226, descriptorIndex := 224, attributes := #[] }, { accessFlags := 26, nameIndex := 228, descriptorIndex := 224, attributes := #[] }, { accessFlags := 26, nameIndex := 230, descriptorIndex := 224, attributes := #[] }, { accessFlags := 18, nameIndex := 50, descriptorIndex := 51, attributes := #[] }, { accessFlags := 2, nameIndex := 150, descriptorIndex := 151, attributes := #[] }])
  fields := #[{ name := "DEFAULT_APP_NAME", type := (.object "java/lang/String"), accessFlags := 25, slot := 0, constantValue := 0 }, { name := "PRIORITY_AND_VERSION", type := (.object "java/lang/String"), accessFlags := 26, slot := 1, constantValue := 0 }, { name := "MESSAGE_ID", type := (.object "java/lang/String"), accessFlags := 26, slot := 2, constantValue := 0 }, { name := "NILVALUE", type := (.object "java/lang/String"), accessFlags := 26, slot := 3, constantValue := 0 }, { name := "NO_STRUCTURED_DATA", type := (.object "java/lang/String"), accessFlags := 26, slot := 4, constantValue := 0 }, { name := "RECORD_START", type := (.array .byte), accessFlags := 26, slot := 5, constantValue := 0 }, { name := "LONGEST_HOST_NAME", type := .int, accessFlags := 26, slot := 6, constantValue := 0 }, { name := "LONGEST_APP_NAME", type := .int, accessFlags := 26, slot := 7, constantValue := 0 }, { name := "MILLISECONDS", type := .int, accessFlags := 26, slot := 8, constantValue := 0 }, { name := "MILLISECOND_DIGITS", type := .int, accessFlags := 26, slot := 9, constantValue := 0 }, { name := "afterTimestamp", type := (.object "java/lang/String"), accessFlags := 18, slot := 0, constantValue := 0 }, { name := "last", type := (.object "com/example/auditwright/auditwright/delivery/SyslogFramer$Header"), accessFlags := 2, slot := 1, constantValue := 0 }]
  methods := #[k2m0]
  instanceTypes := #[(.object "java/lang/String"), (.object "com/example/auditwright/auditwright/delivery/SyslogFramer$Header")]
  staticTypes := #[(.object "java/lang/String"), (.object "java/lang/String"), (.object "java/lang/String"), (.object "java/lang/String"), (.object "java/lang/String"), (.array .byte), .int, .int, .int, .int]
  resolved := Array.replicate 263 none
  statics := some 0 }

def pool3 : Array CpInfo := pool [(1, u "java/lang/Cloneable"), (0, .class_ 1), (0, u "java/lang/Object"), (0, .class_ 3)] 3

/-- java/lang/Cloneable -/
def k3 : Class := { plain "java/lang/Cloneable" (some 0) with
  accessFlags := 1537
  interfaces := #[]
  cf := some (fileOf pool3 2 #[] #[] 1537 4 #[] #[])
  fields := #[]
  methods := #[]
  instanceTypes := #[]
  staticTypes := #[]
  resolved := Array.replicate 8 none
  statics := none }

def pool4 : Array CpInfo := pool [(1, u "java/io/Serializable"), (0, .class_ 1), (0, u "java/lang/Object"), (0, .class_ 3)] 3

/-- java/io/Serializable -/
def k4 : Class := { plain "java/io/Serializable" (some 0) with
  accessFlags := 1537
  interfaces := #[]
  cf := some (fileOf pool4 2 #[] #[] 1537 4 #[] #[])
  fields := #[]
  methods := #[]
  instanceTypes := #[]
  staticTypes := #[]
  resolved := Array.replicate 8 none
  statics := none }

/-- the primitive byte -/
def k5 : Class := { plain "byte" none with kind := .primitive 'B', accessFlags := 0x411 }
/-- [B -/
def k6 : Class := { plain "[B" (some 0) with kind := .array 5 .byte, interfaces := #[3, 4], accessFlags := 1041 }

/-- the primitive int -/
def k7 : Class := { plain "int" none with kind := .primitive 'I', accessFlags := 0x411 }
/-- [I -/
def k8 : Class := { plain "[I" (some 0) with kind := .array 7 .int, interfaces := #[3, 4], accessFlags := 1041 }

def heap : Heap := #[{ cls := 2, slots := #[.null, .null, .null, .null, .null, .ref 1, .int 0, .int 0, .int 0, .int 0], vm := .statics 2 },
  { cls := 6, slots := #[.int 60, .int 56, .int 53, .int 62, .int 49, .int 32], vm := .none }]
def classes : Array Class := #[k0, k1, k2, k3, k4, k5, k6, k7, k8]
def interned : List (Array UInt16 × Addr) := []
def slotsUsed : Nat := 16
def theMethod : MethodId := ⟨1, 1⟩
def args0 : Array Value := #[.int 1, .int 7, .int 3, .long 5]
def aboutOver (below : List Frame) : State where
  vm := { classes := classes, interned := interned.toArray }
  heap := heap
  slotsUsed := slotsUsed
  threads := #[{ frames := .invoking theMethod args0 :: below }]
def below0 : List Frame := [.native { method := ⟨0, 0⟩, args := #[] }]
def about1 : State := aboutOver below0
def p0 : Program := .bare "" "" ""
def e0 : Env := launch0.env 0 0 0
theorem w_frames : about1.frames = Frame.invoking theMethod args0 :: below0 := rfl
set_option maxRecDepth 65536 in
theorem w_args : argsFit about1.vm theMethod args0 = true := by decide +kernel
set_option maxRecDepth 65536 in
theorem w_heap : heapFits about1 = true := by decide +kernel
set_option maxRecDepth 65536 in
theorem w_runnable : about1.curStatus? = some .runnable := by decide +kernel
set_option maxRecDepth 65536 in
theorem w_alone : about1.alone = true := by decide +kernel
set_option maxRecDepth 65536 in
theorem w_named : about1.methodNamed? x = some theMethod := by decide +kernel
set_option maxRecDepth 65536 in
theorem w_hears : about1.hears theMethod below0 = true := by decide +kernel
set_option maxRecDepth 65536 in
theorem w_ripe : about1.ripe theMethod args0 below0 = true := by decide +kernel
theorem w_running : about1.status = .running := rfl
set_option maxRecDepth 65536 in
theorem w_room : about1.hasRoom e0.platform room_1 = true :=
  launch0.hasRoom_least _ room_1 (by decide +kernel) (by decide +kernel) (by decide +kernel) (by decide +kernel) (by decide +kernel) (by decide +kernel)
theorem allAtoms_all (ts : List Jvm.Cond) (a : Array Jvm.Value) (st : Jvm.State) : (allAtoms ts).before a st = ts.all (fun c => c.before a st) := by
  induction ts with
  | nil => rfl
  | cons c t ih =>
    show (Jvm.Cond.and c (allAtoms t)).before a st = _
    rw [Jvm.Cond.before_and, ih, List.all_cons]
def words1 : List Jvm.Cond := Jvm.Cond.code x code maxLocals ret :: tables_1
/-- a 'code' word, met by the world's own term for the bytes: nothing is compared byte by byte -/
theorem code_word {y : MethodName} {bytes : ByteArray} {mx : Nat} {rt : Option FieldType} {a : Array Value} {s : State} {m : MethodId} {meth : Method} {c : Code} (h1 : s.methodNamed? y = some m) (h2 : s.vm.method? m = some meth) (h3 : meth.code = some c) (h4 : c.code = bytes)
    (h5 : (c.maxLocals == mx && c.exceptionTable.isEmpty && decide (c.maxStack ≤ mostOperands) && decide (meth.sig.returnType = rt) && !meth.locks && decide (parseMethodDescriptor y.desc = some meth.sig)) = true) : (Jvm.Cond.code y bytes mx rt).before a s = true := by
  simp only [Bool.and_eq_true, beq_iff_eq, Bool.not_eq_true', decide_eq_true_eq] at h5
  obtain ⟨⟨⟨⟨⟨g1, g2⟩, g3⟩, g4⟩, g5⟩, g6⟩ := h5
  simp [Cond.before, Cond.holds, Cond.value, h1, h2, h3, h4, g1, g2, g3, g4, g5, g6]
def isCode : Jvm.Cond → Bool
  | .code _ _ _ _ => true
  | _ => false
theorem all_split {L : List Jvm.Cond} {P : Jvm.Cond → Bool} (h1 : L.all (fun c => isCode c || P c) = true) (h2 : ∀ c ∈ L.filter isCode, P c = true) : L.all P = true := by
  refine List.all_eq_true.mpr fun c hc => ?_
  have h := List.all_eq_true.mp h1 c hc
  rcases Bool.eq_false_or_eq_true (isCode c) with hi | hi
  · exact h2 c (List.mem_filter.mpr ⟨hc, hi⟩)
  · simpa [hi] using h
set_option maxRecDepth 65536 in
theorem w_c0 : (Jvm.Cond.code x code maxLocals ret).before args0 about1 = true := code_word (m := ⟨1, 1⟩) (meth := k1m1) (c := k1c1) (by decide +kernel) rfl rfl rfl (by decide +kernel)
set_option maxRecDepth 65536 in
theorem w_c1 : (Jvm.Cond.code ({ cls := "com/example/auditwright/auditwright/delivery/SyslogFramerStartsAsRecordPinLaw", name := "put", desc := "([BIIIC)V" } : Jvm.MethodName) method_3_code (5 : Nat) (Option.none : Option Jvm.ClassFile.FieldType)).before args0 about1 = true := code_word (m := ⟨1, 2⟩) (meth := k1m2) (c := k1c2) (by decide +kernel) rfl rfl rfl (by decide +kernel)
set_option maxRecDepth 65536 in
theorem w_c2 : (Jvm.Cond.code ({ cls := "com/example/auditwright/auditwright/delivery/SyslogFramer", name := "startsAsRecord", desc := "([BII)Z" } : Jvm.MethodName) prog_79_method_5_code (5 : Nat) (Option.some Jvm.ClassFile.FieldType.boolean)).before args0 about1 = true := code_word (m := ⟨2, 0⟩) (meth := k2m0) (c := k2c0) (by decide +kernel) rfl rfl rfl (by decide +kernel)
def codes1 : List Jvm.Cond := [Jvm.Cond.code x code maxLocals ret, Jvm.Cond.code ({ cls := "com/example/auditwright/auditwright/delivery/SyslogFramerStartsAsRecordPinLaw", name := "put", desc := "([BIIIC)V" } : Jvm.MethodName) method_3_code (5 : Nat) (Option.none : Option Jvm.ClassFile.FieldType), Jvm.Cond.code ({ cls := "com/example/auditwright/auditwright/delivery/SyslogFramer", name := "startsAsRecord", desc := "([BII)Z" } : Jvm.MethodName) prog_79_method_5_code (5 : Nat) (Option.some Jvm.ClassFile.FieldType.boolean)]
set_option maxRecDepth 65536 in
theorem codes_eq : words1.filter isCode = codes1 := rfl
theorem w_codes : ∀ c ∈ words1.filter isCode, c.before args0 about1 = true := by
  rw [codes_eq]
  intro c hc
  simp only [codes1, List.mem_cons, List.not_mem_nil, or_false] at hc
  rcases hc with rfl | rfl | rfl
  · exact w_c0
  · exact w_c1
  · exact w_c2
set_option maxRecDepth 65536 in
theorem w_t1 : words1.all (fun c => isCode c || c.before args0 about1) = true := by decide +kernel
theorem w_tables : (allAtoms (Jvm.Cond.code x code maxLocals ret :: tables_1)).before args0 about1 = true := by
  rw [allAtoms_all]
  show words1.all (fun c => c.before args0 about1) = true
  refine all_split ?_ w_codes
  rw [w_t1]
set_option maxRecDepth 65536 in
theorem w_case : (Jvm.Cond.and given_1 narrow_1).before args0 about1 = true := by decide +kernel
theorem w_applies : (headSpec (Jvm.Cond.code x code maxLocals ret :: tables_1) room_1).applies x e0.platform about1 = true :=
  (Spec.applies_iff w_frames).mpr ⟨w_running, w_runnable, w_alone, w_named, w_hears, w_ripe, w_room, w_tables⟩
theorem atStart : AtStart classFile x code maxLocals ret World_1 tables_1 room_1 Calls_1 rest_1 Pre_1 launch0 p0 e0 about1 theMethod args0 below0 :=
  ⟨lists_1, trivial, launch0.admits_env _ _ _, launch0.least_env, fairChoices_fair.cas, fairChoices_fair.clock, w_frames, w_args, w_heap, w_applies, trivial, trivial, w_case⟩
end start1
theorem witness_1 : WitnessClaimed_1 := ⟨start1.p0, start1.e0, start1.about1, start1.theMethod, start1.args0, start1.below0, start1.atStart⟩
end Jvm.Pilot.@@N@@
