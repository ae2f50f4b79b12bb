import JvmDerived
import JvmDerived.Pilot.@@N@@Statement
import JvmDerived.Pilot.@@N@@Code
set_option linter.unusedVariables false
set_option linter.unusedSimpArgs false
namespace Jvm.Pilot.@@N@@
open Jvm Jvm.ClassFile Sem Op Lib Jvm.Free Jvm.Stand Jvm.LawKit Jvm.RoadKit Bundle Jvm.Pilot.@@N@@.Jvm.D
section OwnRet
variable {p : Program} {l : Launch} {e : Env} {R : Room} {s : State} {m : MethodId} {args : Array Value} {below : List Frame} {meth : Method} {c : Code} {T : State} {locs : List Loc} {cells slots : Nat}
theorem own_retN (X : Stand p l e R s m args below meth c T locs cells slots) (hx : p.tables.exec = Jvm.exec) {pc : Nat} {Ls : Array Slot} {z : Int32} {t : FieldType} {rest : List Value} (hret : meth.sig.returnType = some t) (ht : t = .boolean ∨ t = .byte ∨ t = .char ∨ t = .short) (hz : nar t z = z)
    (hd : decode c.code pc = .ok (.ireturn, 1)) {fs : List Frame} (hl : ∀ (f : JFrame) (acts : List Action), f.method = m → f.locked = none → f.entered = [] → (doReturn e (T.setTop f) acts (some (.int z))).1 = T.setFrames fs) :
    Steps p.tables e below (T.setTop (mkF m pc Ls (.int z :: rest))) (T.setFrames fs) := retN X hx hret ht hd (by rw [hz]; exact hl)
theorem own_nb {z : Int32} (h : z = 0 ∨ z = 1) : nar .boolean z = z := by rcases h with rfl | rfl <;> rfl
end OwnRet
theorem dn_0 : decode prog_47_method_7_code 0 = .ok (.iload_n 0, 1) := by decide +kernel
theorem dn_1 : decode prog_47_method_7_code 1 = .ok (.sipush 128, 3) := by decide +kernel
theorem dn_4 : decode prog_47_method_7_code 4 = .ok (.if_icmp .ge 19, 3) := by decide +kernel
theorem dn_7 : decode prog_47_method_7_code 7 = .ok (.getstatic 12, 3) := by decide +kernel
theorem dn_10 : decode prog_47_method_7_code 10 = .ok (.iload_n 0, 1) := by decide +kernel
theorem dn_11 : decode prog_47_method_7_code 11 = .ok (.baload, 1) := by decide +kernel
theorem dn_12 : decode prog_47_method_7_code 12 = .ok (.iconst 1, 1) := by decide +kernel
theorem dn_13 : decode prog_47_method_7_code 13 = .ok (.iand, 1) := by decide +kernel
theorem dn_14 : decode prog_47_method_7_code 14 = .ok (.ifCond .eq 7, 3) := by decide +kernel
theorem dn_17 : decode prog_47_method_7_code 17 = .ok (.iconst 1, 1) := by decide +kernel
theorem dn_18 : decode prog_47_method_7_code 18 = .ok (.goto 4, 3) := by decide +kernel
theorem dn_21 : decode prog_47_method_7_code 21 = .ok (.iconst 0, 1) := by decide +kernel
theorem dn_22 : decode prog_47_method_7_code 22 = .ok (.ireturn, 1) := by decide +kernel
theorem dn_23 : decode prog_47_method_7_code 23 = .ok (.iload_n 0, 1) := by decide +kernel
theorem dn_24 : decode prog_47_method_7_code 24 = .ok (.sipush 192, 3) := by decide +kernel
theorem dn_27 : decode prog_47_method_7_code 27 = .ok (.if_icmp .lt 10, 3) := by decide +kernel
theorem dn_30 : decode prog_47_method_7_code 30 = .ok (.iload_n 0, 1) := by decide +kernel
theorem dn_31 : decode prog_47_method_7_code 31 = .ok (.sipush 214, 3) := by decide +kernel
theorem dn_34 : decode prog_47_method_7_code 34 = .ok (.if_icmp .le 138, 3) := by decide +kernel
theorem dn_37 : decode prog_47_method_7_code 37 = .ok (.iload_n 0, 1) := by decide +kernel
theorem dn_38 : decode prog_47_method_7_code 38 = .ok (.sipush 216, 3) := by decide +kernel
theorem dn_41 : decode prog_47_method_7_code 41 = .ok (.if_icmp .lt 10, 3) := by decide +kernel
theorem dn_44 : decode prog_47_method_7_code 44 = .ok (.iload_n 0, 1) := by decide +kernel
theorem dn_45 : decode prog_47_method_7_code 45 = .ok (.sipush 246, 3) := by decide +kernel
theorem dn_48 : decode prog_47_method_7_code 48 = .ok (.if_icmp .le 124, 3) := by decide +kernel
theorem dn_51 : decode prog_47_method_7_code 51 = .ok (.iload_n 0, 1) := by decide +kernel
theorem dn_52 : decode prog_47_method_7_code 52 = .ok (.sipush 248, 3) := by decide +kernel
theorem dn_55 : decode prog_47_method_7_code 55 = .ok (.if_icmp .lt 10, 3) := by decide +kernel
theorem dn_58 : decode prog_47_method_7_code 58 = .ok (.iload_n 0, 1) := by decide +kernel
theorem dn_59 : decode prog_47_method_7_code 59 = .ok (.sipush 767, 3) := by decide +kernel
theorem dn_62 : decode prog_47_method_7_code 62 = .ok (.if_icmp .le 110, 3) := by decide +kernel
theorem dn_65 : decode prog_47_method_7_code 65 = .ok (.iload_n 0, 1) := by decide +kernel
theorem dn_66 : decode prog_47_method_7_code 66 = .ok (.sipush 880, 3) := by decide +kernel
theorem dn_69 : decode prog_47_method_7_code 69 = .ok (.if_icmp .lt 10, 3) := by decide +kernel
theorem dn_72 : decode prog_47_method_7_code 72 = .ok (.iload_n 0, 1) := by decide +kernel
theorem dn_73 : decode prog_47_method_7_code 73 = .ok (.sipush 893, 3) := by decide +kernel
theorem dn_76 : decode prog_47_method_7_code 76 = .ok (.if_icmp .le 96, 3) := by decide +kernel
theorem dn_79 : decode prog_47_method_7_code 79 = .ok (.iload_n 0, 1) := by decide +kernel
theorem dn_80 : decode prog_47_method_7_code 80 = .ok (.sipush 895, 3) := by decide +kernel
theorem dn_83 : decode prog_47_method_7_code 83 = .ok (.if_icmp .lt 10, 3) := by decide +kernel
theorem dn_86 : decode prog_47_method_7_code 86 = .ok (.iload_n 0, 1) := by decide +kernel
theorem dn_87 : decode prog_47_method_7_code 87 = .ok (.sipush 8191, 3) := by decide +kernel
theorem dn_90 : decode prog_47_method_7_code 90 = .ok (.if_icmp .le 82, 3) := by decide +kernel
theorem dn_93 : decode prog_47_method_7_code 93 = .ok (.iload_n 0, 1) := by decide +kernel
theorem dn_94 : decode prog_47_method_7_code 94 = .ok (.sipush 8204, 3) := by decide +kernel
theorem dn_97 : decode prog_47_method_7_code 97 = .ok (.if_icmp .eq 75, 3) := by decide +kernel
theorem dn_100 : decode prog_47_method_7_code 100 = .ok (.iload_n 0, 1) := by decide +kernel
theorem dn_101 : decode prog_47_method_7_code 101 = .ok (.sipush 8205, 3) := by decide +kernel
theorem dn_104 : decode prog_47_method_7_code 104 = .ok (.if_icmp .eq 68, 3) := by decide +kernel
theorem dn_107 : decode prog_47_method_7_code 107 = .ok (.iload_n 0, 1) := by decide +kernel
theorem dn_108 : decode prog_47_method_7_code 108 = .ok (.sipush 8304, 3) := by decide +kernel
theorem dn_111 : decode prog_47_method_7_code 111 = .ok (.if_icmp .lt 10, 3) := by decide +kernel
theorem dn_114 : decode prog_47_method_7_code 114 = .ok (.iload_n 0, 1) := by decide +kernel
theorem dn_115 : decode prog_47_method_7_code 115 = .ok (.sipush 8591, 3) := by decide +kernel
theorem dn_118 : decode prog_47_method_7_code 118 = .ok (.if_icmp .le 54, 3) := by decide +kernel
theorem dn_121 : decode prog_47_method_7_code 121 = .ok (.iload_n 0, 1) := by decide +kernel
theorem dn_122 : decode prog_47_method_7_code 122 = .ok (.sipush 11264, 3) := by decide +kernel
theorem dn_125 : decode prog_47_method_7_code 125 = .ok (.if_icmp .lt 10, 3) := by decide +kernel
theorem dn_128 : decode prog_47_method_7_code 128 = .ok (.iload_n 0, 1) := by decide +kernel
theorem dn_129 : decode prog_47_method_7_code 129 = .ok (.sipush 12271, 3) := by decide +kernel
theorem dn_132 : decode prog_47_method_7_code 132 = .ok (.if_icmp .le 40, 3) := by decide +kernel
theorem dn_135 : decode prog_47_method_7_code 135 = .ok (.iload_n 0, 1) := by decide +kernel
theorem dn_136 : decode prog_47_method_7_code 136 = .ok (.sipush 12289, 3) := by decide +kernel
theorem dn_139 : decode prog_47_method_7_code 139 = .ok (.if_icmp .lt 9, 3) := by decide +kernel
theorem dn_142 : decode prog_47_method_7_code 142 = .ok (.iload_n 0, 1) := by decide +kernel
theorem dn_143 : decode prog_47_method_7_code 143 = .ok (.ldc 7, 2) := by decide +kernel
theorem dn_145 : decode prog_47_method_7_code 145 = .ok (.if_icmp .le 27, 3) := by decide +kernel
theorem dn_148 : decode prog_47_method_7_code 148 = .ok (.iload_n 0, 1) := by decide +kernel
theorem dn_149 : decode prog_47_method_7_code 149 = .ok (.ldc 18, 2) := by decide +kernel
theorem dn_151 : decode prog_47_method_7_code 151 = .ok (.if_icmp .lt 9, 3) := by decide +kernel
theorem dn_154 : decode prog_47_method_7_code 154 = .ok (.iload_n 0, 1) := by decide +kernel
theorem dn_155 : decode prog_47_method_7_code 155 = .ok (.ldc 19, 2) := by decide +kernel
theorem dn_157 : decode prog_47_method_7_code 157 = .ok (.if_icmp .le 15, 3) := by decide +kernel
theorem dn_160 : decode prog_47_method_7_code 160 = .ok (.iload_n 0, 1) := by decide +kernel
theorem dn_161 : decode prog_47_method_7_code 161 = .ok (.ldc 20, 2) := by decide +kernel
theorem dn_163 : decode prog_47_method_7_code 163 = .ok (.if_icmp .lt 13, 3) := by decide +kernel
theorem dn_166 : decode prog_47_method_7_code 166 = .ok (.iload_n 0, 1) := by decide +kernel
theorem dn_167 : decode prog_47_method_7_code 167 = .ok (.ldc 9, 2) := by decide +kernel
theorem dn_169 : decode prog_47_method_7_code 169 = .ok (.if_icmp .gt 7, 3) := by decide +kernel
theorem dn_172 : decode prog_47_method_7_code 172 = .ok (.iconst 1, 1) := by decide +kernel
theorem dn_173 : decode prog_47_method_7_code 173 = .ok (.goto 4, 3) := by decide +kernel
theorem dn_176 : decode prog_47_method_7_code 176 = .ok (.iconst 0, 1) := by decide +kernel
theorem dn_177 : decode prog_47_method_7_code 177 = .ok (.ireturn, 1) := by decide +kernel
theorem de_0 : decode method_3_code 0 = .ok (.iload_n 0, 1) := by decide +kernel
theorem de_1 : decode method_3_code 1 = .ok (.sipush 128, 3) := by decide +kernel
theorem de_4 : decode method_3_code 4 = .ok (.if_icmp .ge 45, 3) := by decide +kernel
theorem de_7 : decode method_3_code 7 = .ok (.iload_n 0, 1) := by decide +kernel
theorem de_8 : decode method_3_code 8 = .ok (.bipush 65, 2) := by decide +kernel
theorem de_10 : decode method_3_code 10 = .ok (.if_icmp .lt 9, 3) := by decide +kernel
theorem de_13 : decode method_3_code 13 = .ok (.iload_n 0, 1) := by decide +kernel
theorem de_14 : decode method_3_code 14 = .ok (.bipush 90, 2) := by decide +kernel
theorem de_16 : decode method_3_code 16 = .ok (.if_icmp .le 27, 3) := by decide +kernel
theorem de_19 : decode method_3_code 19 = .ok (.iload_n 0, 1) := by decide +kernel
theorem de_20 : decode method_3_code 20 = .ok (.bipush 97, 2) := by decide +kernel
theorem de_22 : decode method_3_code 22 = .ok (.if_icmp .lt 9, 3) := by decide +kernel
theorem de_25 : decode method_3_code 25 = .ok (.iload_n 0, 1) := by decide +kernel
theorem de_26 : decode method_3_code 26 = .ok (.bipush 122, 2) := by decide +kernel
theorem de_28 : decode method_3_code 28 = .ok (.if_icmp .le 15, 3) := by decide +kernel
theorem de_31 : decode method_3_code 31 = .ok (.iload_n 0, 1) := by decide +kernel
theorem de_32 : decode method_3_code 32 = .ok (.bipush 58, 2) := by decide +kernel
theorem de_34 : decode method_3_code 34 = .ok (.if_icmp .eq 9, 3) := by decide +kernel
theorem de_37 : decode method_3_code 37 = .ok (.iload_n 0, 1) := by decide +kernel
theorem de_38 : decode method_3_code 38 = .ok (.bipush 95, 2) := by decide +kernel
theorem de_40 : decode method_3_code 40 = .ok (.if_icmp .ne 7, 3) := by decide +kernel
theorem de_43 : decode method_3_code 43 = .ok (.iconst 1, 1) := by decide +kernel
theorem de_44 : decode method_3_code 44 = .ok (.goto 4, 3) := by decide +kernel
theorem de_47 : decode method_3_code 47 = .ok (.iconst 0, 1) := by decide +kernel
theorem de_48 : decode method_3_code 48 = .ok (.ireturn, 1) := by decide +kernel
theorem de_49 : decode method_3_code 49 = .ok (.iload_n 0, 1) := by decide +kernel
theorem de_50 : decode method_3_code 50 = .ok (.invokestatic 20, 3) := by decide +kernel
theorem de_53 : decode method_3_code 53 = .ok (.ifCond .ne 7, 3) := by decide +kernel
theorem de_56 : decode method_3_code 56 = .ok (.iconst 1, 1) := by decide +kernel
theorem de_57 : decode method_3_code 57 = .ok (.goto 4, 3) := by decide +kernel
theorem de_60 : decode method_3_code 60 = .ok (.iconst 0, 1) := by decide +kernel
theorem de_61 : decode method_3_code 61 = .ok (.ireturn, 1) := by decide +kernel
theorem dx_0 : decode method_4_code 0 = .ok (.iload_n 0, 1) := by decide +kernel
theorem dx_1 : decode method_4_code 1 = .ok (.sipush 191, 3) := by decide +kernel
theorem dx_4 : decode method_4_code 4 = .ok (.if_icmp .le 124, 3) := by decide +kernel
theorem dx_7 : decode method_4_code 7 = .ok (.iload_n 0, 1) := by decide +kernel
theorem dx_8 : decode method_4_code 8 = .ok (.sipush 215, 3) := by decide +kernel
theorem dx_11 : decode method_4_code 11 = .ok (.if_icmp .eq 117, 3) := by decide +kernel
theorem dx_14 : decode method_4_code 14 = .ok (.iload_n 0, 1) := by decide +kernel
theorem dx_15 : decode method_4_code 15 = .ok (.sipush 247, 3) := by decide +kernel
theorem dx_18 : decode method_4_code 18 = .ok (.if_icmp .eq 110, 3) := by decide +kernel
theorem dx_21 : decode method_4_code 21 = .ok (.iload_n 0, 1) := by decide +kernel
theorem dx_22 : decode method_4_code 22 = .ok (.sipush 768, 3) := by decide +kernel
theorem dx_25 : decode method_4_code 25 = .ok (.if_icmp .lt 10, 3) := by decide +kernel
theorem dx_28 : decode method_4_code 28 = .ok (.iload_n 0, 1) := by decide +kernel
theorem dx_29 : decode method_4_code 29 = .ok (.sipush 879, 3) := by decide +kernel
theorem dx_32 : decode method_4_code 32 = .ok (.if_icmp .le 96, 3) := by decide +kernel
theorem dx_35 : decode method_4_code 35 = .ok (.iload_n 0, 1) := by decide +kernel
theorem dx_36 : decode method_4_code 36 = .ok (.sipush 894, 3) := by decide +kernel
theorem dx_39 : decode method_4_code 39 = .ok (.if_icmp .eq 89, 3) := by decide +kernel
theorem dx_42 : decode method_4_code 42 = .ok (.iload_n 0, 1) := by decide +kernel
theorem dx_43 : decode method_4_code 43 = .ok (.sipush 8192, 3) := by decide +kernel
theorem dx_46 : decode method_4_code 46 = .ok (.if_icmp .lt 10, 3) := by decide +kernel
theorem dx_49 : decode method_4_code 49 = .ok (.iload_n 0, 1) := by decide +kernel
theorem dx_50 : decode method_4_code 50 = .ok (.sipush 8203, 3) := by decide +kernel
theorem dx_53 : decode method_4_code 53 = .ok (.if_icmp .le 75, 3) := by decide +kernel
theorem dx_56 : decode method_4_code 56 = .ok (.iload_n 0, 1) := by decide +kernel
theorem dx_57 : decode method_4_code 57 = .ok (.sipush 8206, 3) := by decide +kernel
theorem dx_60 : decode method_4_code 60 = .ok (.if_icmp .lt 10, 3) := by decide +kernel
theorem dx_63 : decode method_4_code 63 = .ok (.iload_n 0, 1) := by decide +kernel
theorem dx_64 : decode method_4_code 64 = .ok (.sipush 8303, 3) := by decide +kernel
theorem dx_67 : decode method_4_code 67 = .ok (.if_icmp .le 61, 3) := by decide +kernel
theorem dx_70 : decode method_4_code 70 = .ok (.iload_n 0, 1) := by decide +kernel
theorem dx_71 : decode method_4_code 71 = .ok (.sipush 8592, 3) := by decide +kernel
theorem dx_74 : decode method_4_code 74 = .ok (.if_icmp .lt 10, 3) := by decide +kernel
theorem dx_77 : decode method_4_code 77 = .ok (.iload_n 0, 1) := by decide +kernel
theorem dx_78 : decode method_4_code 78 = .ok (.sipush 11263, 3) := by decide +kernel
theorem dx_81 : decode method_4_code 81 = .ok (.if_icmp .le 47, 3) := by decide +kernel
theorem dx_84 : decode method_4_code 84 = .ok (.iload_n 0, 1) := by decide +kernel
theorem dx_85 : decode method_4_code 85 = .ok (.sipush 12272, 3) := by decide +kernel
theorem dx_88 : decode method_4_code 88 = .ok (.if_icmp .lt 10, 3) := by decide +kernel
theorem dx_91 : decode method_4_code 91 = .ok (.iload_n 0, 1) := by decide +kernel
theorem dx_92 : decode method_4_code 92 = .ok (.sipush 12288, 3) := by decide +kernel
theorem dx_95 : decode method_4_code 95 = .ok (.if_icmp .le 33, 3) := by decide +kernel
theorem dx_98 : decode method_4_code 98 = .ok (.iload_n 0, 1) := by decide +kernel
theorem dx_99 : decode method_4_code 99 = .ok (.ldc 23, 2) := by decide +kernel
theorem dx_101 : decode method_4_code 101 = .ok (.if_icmp .lt 9, 3) := by decide +kernel
theorem dx_104 : decode method_4_code 104 = .ok (.iload_n 0, 1) := by decide +kernel
theorem dx_105 : decode method_4_code 105 = .ok (.ldc 24, 2) := by decide +kernel
theorem dx_107 : decode method_4_code 107 = .ok (.if_icmp .le 21, 3) := by decide +kernel
theorem dx_110 : decode method_4_code 110 = .ok (.iload_n 0, 1) := by decide +kernel
theorem dx_111 : decode method_4_code 111 = .ok (.ldc 25, 2) := by decide +kernel
theorem dx_113 : decode method_4_code 113 = .ok (.if_icmp .lt 9, 3) := by decide +kernel
theorem dx_116 : decode method_4_code 116 = .ok (.iload_n 0, 1) := by decide +kernel
theorem dx_117 : decode method_4_code 117 = .ok (.ldc 26, 2) := by decide +kernel
theorem dx_119 : decode method_4_code 119 = .ok (.if_icmp .le 9, 3) := by decide +kernel
theorem dx_122 : decode method_4_code 122 = .ok (.iload_n 0, 1) := by decide +kernel
theorem dx_123 : decode method_4_code 123 = .ok (.ldc 27, 2) := by decide +kernel
theorem dx_125 : decode method_4_code 125 = .ok (.if_icmp .lt 7, 3) := by decide +kernel
theorem dx_128 : decode method_4_code 128 = .ok (.iconst 1, 1) := by decide +kernel
theorem dx_129 : decode method_4_code 129 = .ok (.goto 4, 3) := by decide +kernel
theorem dx_132 : decode method_4_code 132 = .ok (.iconst 0, 1) := by decide +kernel
theorem dx_133 : decode method_4_code 133 = .ok (.ireturn, 1) := by decide +kernel
theorem own_pn0 : plainName "mortisebind/runtime/XmlCharactersIsNameStartPinLaw" = true := by first | (simp [plainName, overriddenIn]; done) | decide +kernel
theorem own_pn1 : plainName "mortisebind/runtime/XmlCharacters" = true := by first | (simp [plainName, overriddenIn]; done) | decide +kernel
theorem own_pd0 : parseMethodDescriptor "(I)Z" = some ⟨[.int], some .boolean⟩ := by decide +kernel
theorem own_pd1 : parseMethodDescriptor "(C)Z" = some ⟨[.char], some .boolean⟩ := by decide +kernel
def own_x_132 (xc : Int32) : Int32 := (0 : Int32)
def own_x_128 (xc : Int32) : Int32 := (1 : Int32)
def own_x_122 (xc : Int32) : Int32 := if xc < (65534 : Int32) then own_x_132 xc else own_x_128 xc
def own_x_110 (xc : Int32) : Int32 := if xc < (64976 : Int32) then own_x_122 xc else if (65007 : Int32) < xc then own_x_122 xc else own_x_128 xc
def own_x_98 (xc : Int32) : Int32 := if xc < (55296 : Int32) then own_x_110 xc else if (63743 : Int32) < xc then own_x_110 xc else own_x_128 xc
def own_x_84 (xc : Int32) : Int32 := if xc < (12272 : Int32) then own_x_98 xc else if (12288 : Int32) < xc then own_x_98 xc else own_x_128 xc
def own_x_70 (xc : Int32) : Int32 := if xc < (8592 : Int32) then own_x_84 xc else if (11263 : Int32) < xc then own_x_84 xc else own_x_128 xc
def own_x_56 (xc : Int32) : Int32 := if xc < (8206 : Int32) then own_x_70 xc else if (8303 : Int32) < xc then own_x_70 xc else own_x_128 xc
def own_x_35 (xc : Int32) : Int32 := if xc = (894 : Int32) then own_x_128 xc else if xc < (8192 : Int32) then own_x_56 xc else if (8203 : Int32) < xc then own_x_56 xc else own_x_128 xc
def own_x_0 (xc : Int32) : Int32 := if (191 : Int32) < xc then if xc = (215 : Int32) then own_x_128 xc else if xc = (247 : Int32) then own_x_128 xc else if xc < (768 : Int32) then own_x_35 xc else if (879 : Int32) < xc then own_x_35 xc else own_x_128 xc else own_x_128 xc
theorem own_x_132_eq (xc : Int32) : own_x_132 xc = if (False) then 1 else 0 := by
  unfold own_x_132
  simp
theorem own_x_128_eq (xc : Int32) : own_x_128 xc = if (True) then 1 else 0 := by
  unfold own_x_128
  simp
theorem own_x_122_eq (xc : Int32) : own_x_122 xc = if (65534 ≤ xc.toInt) then 1 else 0 := by
  have g0 : (xc < (65534 : Int32)) = (xc.toInt < 65534) := propext Int32.lt_iff_toInt_lt
  unfold own_x_122
  simp only [own_x_128_eq, own_x_132_eq, g0, if_true, if_false]
  (repeat' split) <;> first | rfl | (exfalso; omega)
theorem own_x_110_eq (xc : Int32) : own_x_110 xc = if ((64976 ≤ xc.toInt ∧ xc.toInt ≤ 65007) ∨ 65534 ≤ xc.toInt) then 1 else 0 := by
  have g0 : (xc < (64976 : Int32)) = (xc.toInt < 64976) := propext Int32.lt_iff_toInt_lt
  have g1 : ((65007 : Int32) < xc) = (65007 < xc.toInt) := propext Int32.lt_iff_toInt_lt
  unfold own_x_110
  simp only [own_x_122_eq, own_x_128_eq, g0, g1, if_true, if_false]
  (repeat' split) <;> first | rfl | (exfalso; omega)
theorem own_x_98_eq (xc : Int32) : own_x_98 xc = if ((55296 ≤ xc.toInt ∧ xc.toInt ≤ 63743) ∨ (64976 ≤ xc.toInt ∧ xc.toInt ≤ 65007) ∨ 65534 ≤ xc.toInt) then 1 else 0 := by
  have g0 : (xc < (55296 : Int32)) = (xc.toInt < 55296) := propext Int32.lt_iff_toInt_lt
  have g1 : ((63743 : Int32) < xc) = (63743 < xc.toInt) := propext Int32.lt_iff_toInt_lt
  unfold own_x_98
  simp only [own_x_110_eq, own_x_128_eq, g0, g1, if_true, if_false]
  (repeat' split) <;> first | rfl | (exfalso; omega)
theorem own_x_84_eq (xc : Int32) : own_x_84 xc = if ((12272 ≤ xc.toInt ∧ xc.toInt ≤ 12288) ∨ (55296 ≤ xc.toInt ∧ xc.toInt ≤ 63743) ∨ (64976 ≤ xc.toInt ∧ xc.toInt ≤ 65007) ∨ 65534 ≤ xc.toInt) then 1 else 0 := by
  have g0 : (xc < (12272 : Int32)) = (xc.toInt < 12272) := propext Int32.lt_iff_toInt_lt
  have g1 : ((12288 : Int32) < xc) = (12288 < xc.toInt) := propext Int32.lt_iff_toInt_lt
  unfold own_x_84
  simp only [own_x_98_eq, own_x_128_eq, g0, g1, if_true, if_false]
  (repeat' split) <;> first | rfl | (exfalso; omega)
theorem own_x_70_eq (xc : Int32) : own_x_70 xc = if ((8592 ≤ xc.toInt ∧ xc.toInt ≤ 11263) ∨ (12272 ≤ xc.toInt ∧ xc.toInt ≤ 12288) ∨ (55296 ≤ xc.toInt ∧ xc.toInt ≤ 63743) ∨ (64976 ≤ xc.toInt ∧ xc.toInt ≤ 65007) ∨ 65534 ≤ xc.toInt) then 1 else 0 := by
  have g0 : (xc < (8592 : Int32)) = (xc.toInt < 8592) := propext Int32.lt_iff_toInt_lt
  have g1 : ((11263 : Int32) < xc) = (11263 < xc.toInt) := propext Int32.lt_iff_toInt_lt
  unfold own_x_70
  simp only [own_x_84_eq, own_x_128_eq, g0, g1, if_true, if_false]
  (repeat' split) <;> first | rfl | (exfalso; omega)
theorem own_x_56_eq (xc : Int32) : own_x_56 xc = if ((8206 ≤ xc.toInt ∧ xc.toInt ≤ 8303) ∨ (8592 ≤ xc.toInt ∧ xc.toInt ≤ 11263) ∨ (12272 ≤ xc.toInt ∧ xc.toInt ≤ 12288) ∨ (55296 ≤ xc.toInt ∧ xc.toInt ≤ 63743) ∨ (64976 ≤ xc.toInt ∧ xc.toInt ≤ 65007) ∨ 65534 ≤ xc.toInt) then 1 else 0 := by
  have g0 : (xc < (8206 : Int32)) = (xc.toInt < 8206) := propext Int32.lt_iff_toInt_lt
  have g1 : ((8303 : Int32) < xc) = (8303 < xc.toInt) := propext Int32.lt_iff_toInt_lt
  unfold own_x_56
  simp only [own_x_70_eq, own_x_128_eq, g0, g1, if_true, if_false]
  (repeat' split) <;> first | rfl | (exfalso; omega)
theorem own_x_35_eq (xc : Int32) : own_x_35 xc = if (xc.toInt = 894 ∨ (8192 ≤ xc.toInt ∧ xc.toInt ≤ 8203) ∨ (8206 ≤ xc.toInt ∧ xc.toInt ≤ 8303) ∨ (8592 ≤ xc.toInt ∧ xc.toInt ≤ 11263) ∨ (12272 ≤ xc.toInt ∧ xc.toInt ≤ 12288) ∨ (55296 ≤ xc.toInt ∧ xc.toInt ≤ 63743) ∨ (64976 ≤ xc.toInt ∧ xc.toInt ≤ 65007) ∨ 65534 ≤ xc.toInt) then 1 else 0 := by
  have g0 : (xc = (894 : Int32)) = (xc.toInt = 894) := propext Int32.toInt_inj.symm
  have g1 : (xc < (8192 : Int32)) = (xc.toInt < 8192) := propext Int32.lt_iff_toInt_lt
  have g2 : ((8203 : Int32) < xc) = (8203 < xc.toInt) := propext Int32.lt_iff_toInt_lt
  unfold own_x_35
  simp only [own_x_56_eq, own_x_128_eq, g0, g1, g2, if_true, if_false]
  (repeat' split) <;> first | rfl | (exfalso; omega)
theorem own_x_0_eq (xc : Int32) : own_x_0 xc = if (xc.toInt ≤ 191 ∨ xc.toInt = 215 ∨ xc.toInt = 247 ∨ (768 ≤ xc.toInt ∧ xc.toInt ≤ 879) ∨ xc.toInt = 894 ∨ (8192 ≤ xc.toInt ∧ xc.toInt ≤ 8203) ∨ (8206 ≤ xc.toInt ∧ xc.toInt ≤ 8303) ∨ (8592 ≤ xc.toInt ∧ xc.toInt ≤ 11263) ∨ (12272 ≤ xc.toInt ∧ xc.toInt ≤ 12288) ∨ (55296 ≤ xc.toInt ∧ xc.toInt ≤ 63743) ∨ (64976 ≤ xc.toInt ∧ xc.toInt ≤ 65007) ∨ 65534 ≤ xc.toInt) then 1 else 0 := by
  have g0 : ((191 : Int32) < xc) = (191 < xc.toInt) := propext Int32.lt_iff_toInt_lt
  have g1 : (xc = (215 : Int32)) = (xc.toInt = 215) := propext Int32.toInt_inj.symm
  have g2 : (xc = (247 : Int32)) = (xc.toInt = 247) := propext Int32.toInt_inj.symm
  have g3 : (xc < (768 : Int32)) = (xc.toInt < 768) := propext Int32.lt_iff_toInt_lt
  have g4 : ((879 : Int32) < xc) = (879 < xc.toInt) := propext Int32.lt_iff_toInt_lt
  unfold own_x_0
  simp only [own_x_35_eq, own_x_128_eq, g0, g1, g2, g3, g4, if_true, if_false]
  (repeat' split) <;> first | rfl | (exfalso; omega)
theorem own_x_01 (xc : Int32) : own_x_0 xc = 0 ∨ own_x_0 xc = 1 := by rw [own_x_0_eq]; split <;> simp
def own_e_47 (xc : Int32) : Int32 := (0 : Int32)
def own_e_43 (xc : Int32) : Int32 := (1 : Int32)
def own_e_31 (xc : Int32) : Int32 := if xc = (58 : Int32) then own_e_43 xc else if xc = (95 : Int32) then own_e_43 xc else own_e_47 xc
def own_e_19 (xc : Int32) : Int32 := if xc < (97 : Int32) then own_e_31 xc else if (122 : Int32) < xc then own_e_31 xc else own_e_43 xc
def own_e_7 (xc : Int32) : Int32 := if xc < (65 : Int32) then own_e_19 xc else if (90 : Int32) < xc then own_e_19 xc else own_e_43 xc
theorem own_e_47_eq (xc : Int32) : own_e_47 xc = if (False) then 1 else 0 := by
  unfold own_e_47
  simp
theorem own_e_43_eq (xc : Int32) : own_e_43 xc = if (True) then 1 else 0 := by
  unfold own_e_43
  simp
theorem own_e_31_eq (xc : Int32) : own_e_31 xc = if (xc.toInt = 58 ∨ xc.toInt = 95) then 1 else 0 := by
  have g0 : (xc = (58 : Int32)) = (xc.toInt = 58) := propext Int32.toInt_inj.symm
  have g1 : (xc = (95 : Int32)) = (xc.toInt = 95) := propext Int32.toInt_inj.symm
  unfold own_e_31
  simp only [own_e_43_eq, own_e_47_eq, g0, g1, if_true, if_false]
  (repeat' split) <;> first | rfl | (exfalso; omega)
theorem own_e_19_eq (xc : Int32) : own_e_19 xc = if (xc.toInt = 58 ∨ xc.toInt = 95 ∨ (97 ≤ xc.toInt ∧ xc.toInt ≤ 122)) then 1 else 0 := by
  have g0 : (xc < (97 : Int32)) = (xc.toInt < 97) := propext Int32.lt_iff_toInt_lt
  have g1 : ((122 : Int32) < xc) = (122 < xc.toInt) := propext Int32.lt_iff_toInt_lt
  unfold own_e_19
  simp only [own_e_31_eq, own_e_43_eq, g0, g1, if_true, if_false]
  (repeat' split) <;> first | rfl | (exfalso; omega)
theorem own_e_7_eq (xc : Int32) : own_e_7 xc = if (xc.toInt = 58 ∨ (65 ≤ xc.toInt ∧ xc.toInt ≤ 90) ∨ xc.toInt = 95 ∨ (97 ≤ xc.toInt ∧ xc.toInt ≤ 122)) then 1 else 0 := by
  have g0 : (xc < (65 : Int32)) = (xc.toInt < 65) := propext Int32.lt_iff_toInt_lt
  have g1 : ((90 : Int32) < xc) = (90 < xc.toInt) := propext Int32.lt_iff_toInt_lt
  unfold own_e_7
  simp only [own_e_19_eq, own_e_43_eq, g0, g1, if_true, if_false]
  (repeat' split) <;> first | rfl | (exfalso; omega)
theorem own_e_01 (xc : Int32) : own_e_7 xc = 0 ∨ own_e_7 xc = 1 := by rw [own_e_7_eq]; split <;> simp
def own_exp (xc : Int32) : Int32 := if xc < 128 then own_e_7 xc else if own_x_0 xc = 0 then 1 else 0
def own_n_176 (xc : Int32) : Int32 := (0 : Int32)
def own_n_172 (xc : Int32) : Int32 := (1 : Int32)
def own_n_160 (xc : Int32) : Int32 := if xc < (65008 : Int32) then own_n_176 xc else if (65533 : Int32) < xc then own_n_176 xc else own_n_172 xc
def own_n_148 (xc : Int32) : Int32 := if xc < (63744 : Int32) then own_n_160 xc else if (64975 : Int32) < xc then own_n_160 xc else own_n_172 xc
def own_n_135 (xc : Int32) : Int32 := if xc < (12289 : Int32) then own_n_148 xc else if (55295 : Int32) < xc then own_n_148 xc else own_n_172 xc
def own_n_121 (xc : Int32) : Int32 := if xc < (11264 : Int32) then own_n_135 xc else if (12271 : Int32) < xc then own_n_135 xc else own_n_172 xc
def own_n_93 (xc : Int32) : Int32 := if xc = (8204 : Int32) then own_n_172 xc else if xc = (8205 : Int32) then own_n_172 xc else if xc < (8304 : Int32) then own_n_121 xc else if (8591 : Int32) < xc then own_n_121 xc else own_n_172 xc
def own_n_79 (xc : Int32) : Int32 := if xc < (895 : Int32) then own_n_93 xc else if (8191 : Int32) < xc then own_n_93 xc else own_n_172 xc
def own_n_65 (xc : Int32) : Int32 := if xc < (880 : Int32) then own_n_79 xc else if (893 : Int32) < xc then own_n_79 xc else own_n_172 xc
def own_n_51 (xc : Int32) : Int32 := if xc < (248 : Int32) then own_n_65 xc else if (767 : Int32) < xc then own_n_65 xc else own_n_172 xc
def own_n_37 (xc : Int32) : Int32 := if xc < (216 : Int32) then own_n_51 xc else if (246 : Int32) < xc then own_n_51 xc else own_n_172 xc
def own_n_23 (xc : Int32) : Int32 := if xc < (192 : Int32) then own_n_37 xc else if (214 : Int32) < xc then own_n_37 xc else own_n_172 xc
theorem own_n_176_eq (xc : Int32) : own_n_176 xc = if (False) then 1 else 0 := by
  unfold own_n_176
  simp
theorem own_n_172_eq (xc : Int32) : own_n_172 xc = if (True) then 1 else 0 := by
  unfold own_n_172
  simp
theorem own_n_160_eq (xc : Int32) : own_n_160 xc = if ((65008 ≤ xc.toInt ∧ xc.toInt ≤ 65533)) then 1 else 0 := by
  have g0 : (xc < (65008 : Int32)) = (xc.toInt < 65008) := propext Int32.lt_iff_toInt_lt
  have g1 : ((65533 : Int32) < xc) = (65533 < xc.toInt) := propext Int32.lt_iff_toInt_lt
  unfold own_n_160
  simp only [own_n_172_eq, own_n_176_eq, g0, g1, if_true, if_false]
  (repeat' split) <;> first | rfl | (exfalso; omega)
theorem own_n_148_eq (xc : Int32) : own_n_148 xc = if ((63744 ≤ xc.toInt ∧ xc.toInt ≤ 64975) ∨ (65008 ≤ xc.toInt ∧ xc.toInt ≤ 65533)) then 1 else 0 := by
  have g0 : (xc < (63744 : Int32)) = (xc.toInt < 63744) := propext Int32.lt_iff_toInt_lt
  have g1 : ((64975 : Int32) < xc) = (64975 < xc.toInt) := propext Int32.lt_iff_toInt_lt
  unfold own_n_148
  simp only [own_n_160_eq, own_n_172_eq, g0, g1, if_true, if_false]
  (repeat' split) <;> first | rfl | (exfalso; omega)
theorem own_n_135_eq (xc : Int32) : own_n_135 xc = if ((12289 ≤ xc.toInt ∧ xc.toInt ≤ 55295) ∨ (63744 ≤ xc.toInt ∧ xc.toInt ≤ 64975) ∨ (65008 ≤ xc.toInt ∧ xc.toInt ≤ 65533)) then 1 else 0 := by
  have g0 : (xc < (12289 : Int32)) = (xc.toInt < 12289) := propext Int32.lt_iff_toInt_lt
  have g1 : ((55295 : Int32) < xc) = (55295 < xc.toInt) := propext Int32.lt_iff_toInt_lt
  unfold own_n_135
  simp only [own_n_148_eq, own_n_172_eq, g0, g1, if_true, if_false]
  (repeat' split) <;> first | rfl | (exfalso; omega)
theorem own_n_121_eq (xc : Int32) : own_n_121 xc = if ((11264 ≤ xc.toInt ∧ xc.toInt ≤ 12271) ∨ (12289 ≤ xc.toInt ∧ xc.toInt ≤ 55295) ∨ (63744 ≤ xc.toInt ∧ xc.toInt ≤ 64975) ∨ (65008 ≤ xc.toInt ∧ xc.toInt ≤ 65533)) then 1 else 0 := by
  have g0 : (xc < (11264 : Int32)) = (xc.toInt < 11264) := propext Int32.lt_iff_toInt_lt
  have g1 : ((12271 : Int32) < xc) = (12271 < xc.toInt) := propext Int32.lt_iff_toInt_lt
  unfold own_n_121
  simp only [own_n_135_eq, own_n_172_eq, g0, g1, if_true, if_false]
  (repeat' split) <;> first | rfl | (exfalso; omega)
theorem own_n_93_eq (xc : Int32) : own_n_93 xc = if ((8204 ≤ xc.toInt ∧ xc.toInt ≤ 8205) ∨ (8304 ≤ xc.toInt ∧ xc.toInt ≤ 8591) ∨ (11264 ≤ xc.toInt ∧ xc.toInt ≤ 12271) ∨ (12289 ≤ xc.toInt ∧ xc.toInt ≤ 55295) ∨ (63744 ≤ xc.toInt ∧ xc.toInt ≤ 64975) ∨ (65008 ≤ xc.toInt ∧ xc.toInt ≤ 65533)) then 1 else 0 := by
  have g0 : (xc = (8204 : Int32)) = (xc.toInt = 8204) := propext Int32.toInt_inj.symm
  have g1 : (xc = (8205 : Int32)) = (xc.toInt = 8205) := propext Int32.toInt_inj.symm
  have g2 : (xc < (8304 : Int32)) = (xc.toInt < 8304) := propext Int32.lt_iff_toInt_lt
  have g3 : ((8591 : Int32) < xc) = (8591 < xc.toInt) := propext Int32.lt_iff_toInt_lt
  unfold own_n_93
  simp only [own_n_121_eq, own_n_172_eq, g0, g1, g2, g3, if_true, if_false]
  (repeat' split) <;> first | rfl | (exfalso; omega)
theorem own_n_79_eq (xc : Int32) : own_n_79 xc = if ((895 ≤ xc.toInt ∧ xc.toInt ≤ 8191) ∨ (8204 ≤ xc.toInt ∧ xc.toInt ≤ 8205) ∨ (8304 ≤ xc.toInt ∧ xc.toInt ≤ 8591) ∨ (11264 ≤ xc.toInt ∧ xc.toInt ≤ 12271) ∨ (12289 ≤ xc.toInt ∧ xc.toInt ≤ 55295) ∨ (63744 ≤ xc.toInt ∧ xc.toInt ≤ 64975) ∨ (65008 ≤ xc.toInt ∧ xc.toInt ≤ 65533)) then 1 else 0 := by
  have g0 : (xc < (895 : Int32)) = (xc.toInt < 895) := propext Int32.lt_iff_toInt_lt
  have g1 : ((8191 : Int32) < xc) = (8191 < xc.toInt) := propext Int32.lt_iff_toInt_lt
  unfold own_n_79
  simp only [own_n_93_eq, own_n_172_eq, g0, g1, if_true, if_false]
  (repeat' split) <;> first | rfl | (exfalso; omega)
theorem own_n_65_eq (xc : Int32) : own_n_65 xc = if ((880 ≤ xc.toInt ∧ xc.toInt ≤ 893) ∨ (895 ≤ xc.toInt ∧ xc.toInt ≤ 8191) ∨ (8204 ≤ xc.toInt ∧ xc.toInt ≤ 8205) ∨ (8304 ≤ xc.toInt ∧ xc.toInt ≤ 8591) ∨ (11264 ≤ xc.toInt ∧ xc.toInt ≤ 12271) ∨ (12289 ≤ xc.toInt ∧ xc.toInt ≤ 55295) ∨ (63744 ≤ xc.toInt ∧ xc.toInt ≤ 64975) ∨ (65008 ≤ xc.toInt ∧ xc.toInt ≤ 65533)) then 1 else 0 := by
  have g0 : (xc < (880 : Int32)) = (xc.toInt < 880) := propext Int32.lt_iff_toInt_lt
  have g1 : ((893 : Int32) < xc) = (893 < xc.toInt) := propext Int32.lt_iff_toInt_lt
  unfold own_n_65
  simp only [own_n_79_eq, own_n_172_eq, g0, g1, if_true, if_false]
  (repeat' split) <;> first | rfl | (exfalso; omega)
theorem own_n_51_eq (xc : Int32) : own_n_51 xc = if ((248 ≤ xc.toInt ∧ xc.toInt ≤ 767) ∨ (880 ≤ xc.toInt ∧ xc.toInt ≤ 893) ∨ (895 ≤ xc.toInt ∧ xc.toInt ≤ 8191) ∨ (8204 ≤ xc.toInt ∧ xc.toInt ≤ 8205) ∨ (8304 ≤ xc.toInt ∧ xc.toInt ≤ 8591) ∨ (11264 ≤ xc.toInt ∧ xc.toInt ≤ 12271) ∨ (12289 ≤ xc.toInt ∧ xc.toInt ≤ 55295) ∨ (63744 ≤ xc.toInt ∧ xc.toInt ≤ 64975) ∨ (65008 ≤ xc.toInt ∧ xc.toInt ≤ 65533)) then 1 else 0 := by
  have g0 : (xc < (248 : Int32)) = (xc.toInt < 248) := propext Int32.lt_iff_toInt_lt
  have g1 : ((767 : Int32) < xc) = (767 < xc.toInt) := propext Int32.lt_iff_toInt_lt
  unfold own_n_51
  simp only [own_n_65_eq, own_n_172_eq, g0, g1, if_true, if_false]
  (repeat' split) <;> first | rfl | (exfalso; omega)
theorem own_n_37_eq (xc : Int32) : own_n_37 xc = if ((216 ≤ xc.toInt ∧ xc.toInt ≤ 246) ∨ (248 ≤ xc.toInt ∧ xc.toInt ≤ 767) ∨ (880 ≤ xc.toInt ∧ xc.toInt ≤ 893) ∨ (895 ≤ xc.toInt ∧ xc.toInt ≤ 8191) ∨ (8204 ≤ xc.toInt ∧ xc.toInt ≤ 8205) ∨ (8304 ≤ xc.toInt ∧ xc.toInt ≤ 8591) ∨ (11264 ≤ xc.toInt ∧ xc.toInt ≤ 12271) ∨ (12289 ≤ xc.toInt ∧ xc.toInt ≤ 55295) ∨ (63744 ≤ xc.toInt ∧ xc.toInt ≤ 64975) ∨ (65008 ≤ xc.toInt ∧ xc.toInt ≤ 65533)) then 1 else 0 := by
  have g0 : (xc < (216 : Int32)) = (xc.toInt < 216) := propext Int32.lt_iff_toInt_lt
  have g1 : ((246 : Int32) < xc) = (246 < xc.toInt) := propext Int32.lt_iff_toInt_lt
  unfold own_n_37
  simp only [own_n_51_eq, own_n_172_eq, g0, g1, if_true, if_false]
  (repeat' split) <;> first | rfl | (exfalso; omega)
theorem own_n_23_eq (xc : Int32) : own_n_23 xc = if ((192 ≤ xc.toInt ∧ xc.toInt ≤ 214) ∨ (216 ≤ xc.toInt ∧ xc.toInt ≤ 246) ∨ (248 ≤ xc.toInt ∧ xc.toInt ≤ 767) ∨ (880 ≤ xc.toInt ∧ xc.toInt ≤ 893) ∨ (895 ≤ xc.toInt ∧ xc.toInt ≤ 8191) ∨ (8204 ≤ xc.toInt ∧ xc.toInt ≤ 8205) ∨ (8304 ≤ xc.toInt ∧ xc.toInt ≤ 8591) ∨ (11264 ≤ xc.toInt ∧ xc.toInt ≤ 12271) ∨ (12289 ≤ xc.toInt ∧ xc.toInt ≤ 55295) ∨ (63744 ≤ xc.toInt ∧ xc.toInt ≤ 64975) ∨ (65008 ≤ xc.toInt ∧ xc.toInt ≤ 65533)) then 1 else 0 := by
  have g0 : (xc < (192 : Int32)) = (xc.toInt < 192) := propext Int32.lt_iff_toInt_lt
  have g1 : ((214 : Int32) < xc) = (214 < xc.toInt) := propext Int32.lt_iff_toInt_lt
  unfold own_n_23
  simp only [own_n_37_eq, own_n_172_eq, g0, g1, if_true, if_false]
  (repeat' split) <;> first | rfl | (exfalso; omega)
theorem own_n_01 (xc : Int32) : own_n_23 xc = 0 ∨ own_n_23 xc = 1 := by rw [own_n_23_eq]; split <;> simp
def own_ns (xc b : Int32) : Int32 := if xc < 128 then (if b &&& 1 = 0 then 0 else 1) else own_n_23 xc
theorem own_plain (xc b : Int32) (h0 : ¬ xc < 0) (h1 : xc < 65536) (hb : xc < 128 → (b &&& 1 = 0 ↔ ¬ (xc.toInt = 58 ∨ (65 ≤ xc.toInt ∧ xc.toInt ≤ 90) ∨ xc.toInt = 95 ∨ (97 ≤ xc.toInt ∧ xc.toInt ≤ 122)))) : own_ns xc b = own_exp xc := by
  unfold own_ns own_exp
  by_cases hc : xc < 128
  · rw [if_pos hc, if_pos hc, own_e_7_eq]
    have h := hb hc
    by_cases hz : b &&& 1 = 0
    · rw [if_pos hz, if_neg (h.mp hz)]
    · rw [if_neg hz, if_pos (Decidable.not_not.mp fun q => hz (h.mpr q))]
  · rw [if_neg hc, if_neg hc, own_n_23_eq, own_x_0_eq]
    rw [Int32.lt_iff_toInt_lt] at h0 h1 hc
    have k0 : (0 : Int32).toInt = 0 := rfl
    have k1 : (65536 : Int32).toInt = 65536 := rfl
    have k2 : (128 : Int32).toInt = 128 := rfl
    rw [k0] at h0; rw [k1] at h1; rw [k2] at hc
    (repeat' split) <;> first | rfl | (exfalso; omega) | (exfalso; simp_all <;> omega)
def own_Qexc (Z : State) (xc : Int32) (h0 : Heap) (n0 : Nat) (v : Option Value) (h : Heap) (L : List Loc) : Prop := v = some (.int (own_x_0 xc)) ∧ Fr n0 L ∧ h = h0
theorem own_exc_ef (m : MethodId) (x0 : Int32) : entryFrame m #[(.int x0)] 1 = mkF m 0 #[.val (.int x0)] [] := by first | (simp [entryFrame, mkF, argsToLocals, Value.category]; done) | rfl
set_option maxRecDepth 65536 in
set_option maxHeartbeats 40000000 in
theorem own_exc (l : Launch) (Z : State) (a0 : Array Value) (hw : ∀ d ∈ tables_1, d.before a0 Z = true) (ws : List Jvm.Cond) (xc : Int32) (h0 : Heap) (n0 : Nat) (Z0 : n0 ≤ h0.size)  :
    MetFree l (⟨"mortisebind/runtime/XmlCharactersIsNameStartPinLaw", "excluded", "(I)Z"⟩ : MethodName) (head1 (Jvm.Cond.code (⟨"mortisebind/runtime/XmlCharactersIsNameStartPinLaw", "excluded", "(I)Z"⟩ : MethodName) method_4_code 1 (some .boolean) :: ws) ({ frames := 0, cells := 0, slots := 0, locals := 0 } : Room)) (fun a U => a = #[(.int xc)] ∧ Z.Warmed39 U.vm ∧ U.heap = h0) (fun _ _ _ _ _ => True) (fun _ U o U' => ∃ v L, o = .returned v ∧ own_Qexc Z xc h0 n0 v U'.heap L ∧ FrameEnd U o U' L ({ frames := 0, cells := 0, slots := 0, locals := 0 } : Room).cells ({ frames := 0, cells := 0, slots := 0, locals := 0 } : Room).slots) := by
  refine MetFree.of_bodySF (plainFor_of_name own_pn0) hisR ?_
  intro p e s m args below meth c s₁ Bd hml0 hP hK
  obtain ⟨rfl, hZ, hh⟩ := hP
  have hx := Bd.exec
  have hby := Bd.bytes
  have hml : c.maxLocals = 1 := hml0
  have hown : s.vm.findClass "mortisebind/runtime/XmlCharactersIsNameStartPinLaw" = some m.cls := findClass_of_methodNamed Bd.named
  have hnm := (name_of_methodNamed Bd.named Bd.method).1
  have X0 : Stand p l e ({ frames := 0, cells := 0, slots := 0, locals := 0 } : Room) s m #[(.int xc)] below meth c s₁ [] 0 0 := Stand.of_body Bd
  have e0 : s₁.heap = h0 := by rw [← hh, Bd.state]; rfl
  have N0 := Fr.nil n0
  have A0 : ∀ t, Steps p.tables e below (s₁.setTop (mkF m 0 #[.val (.int xc)] [])) t → Steps p.tables e below (s₁.setTop (entryFrame m #[(.int xc)] 1)) t := fun t k => castTop (own_exc_ef m xc) k
  have J1_132 : ∀ t, Steps p.tables e below (s₁.setTop (mkF m 133 #[.val (.int xc)] [(.int (own_x_132 xc))])) t → Steps p.tables e below (s₁.setTop (mkF m 132 #[.val (.int xc)] [])) t := by
    intro t k
    unfold own_x_132 at k
    refine XS.iconst X0.here hx rfl (hb hby dx_132) ?_
    show Steps p.tables e below (s₁.setTop (mkF m 133 #[.val (.int xc)] [(.int (0 : Int32))])) _
    exact k
  have J1_128 : ∀ t, Steps p.tables e below (s₁.setTop (mkF m 133 #[.val (.int xc)] [(.int (own_x_128 xc))])) t → Steps p.tables e below (s₁.setTop (mkF m 128 #[.val (.int xc)] [])) t := by
    intro t k
    unfold own_x_128 at k
    refine XS.iconst X0.here hx rfl (hb hby dx_128) ?_
    show Steps p.tables e below (s₁.setTop (mkF m 129 #[.val (.int xc)] [(.int (1 : Int32))])) _
    refine XS.goto X0.here hx rfl (pc0 := 129) (pc' := 133) rfl (hb hby dx_129) (by decide) (by decide) ?_
    show Steps p.tables e below (s₁.setTop (mkF m 133 #[.val (.int xc)] [(.int (1 : Int32))])) _
    exact k
  have J1_122 : ∀ t, Steps p.tables e below (s₁.setTop (mkF m 133 #[.val (.int xc)] [(.int (own_x_122 xc))])) t → Steps p.tables e below (s₁.setTop (mkF m 122 #[.val (.int xc)] [])) t := by
    intro t k
    unfold own_x_122 at k
    refine XS.iloadN X0.here hx rfl (hb hby dx_122) rfl ?_
    show Steps p.tables e below (s₁.setTop (mkF m 123 #[.val (.int xc)] [(.int xc)])) _
    refine X0.ldcInt hx hown (mvT hZ (hw _ (List.mem_of_getElem? (i := 17) rfl))) (g := (mkF m 123 #[.val (.int xc)] [(.int xc)])) rfl (hb hby dx_123) _ ?_
    show Steps p.tables e below (s₁.setTop (mkF m 125 #[.val (.int xc)] [(.int (65534 : Int32)), (.int xc)])) _
    by_cases hk2 : xc < (65534 : Int32)
    · rw [if_pos hk2] at k
      refine XS.icmpYes X0.here hx rfl (pc0 := 125) (pc' := 132) rfl (hb hby dx_125) rfl (tlt hk2).1 (by decide) (by decide) ?_
      show Steps p.tables e below (s₁.setTop (mkF m 132 #[.val (.int xc)] [])) _
      exact J1_132 _ k
    · rw [if_neg hk2] at k
      refine XS.icmpNo X0.here hx rfl (hb hby dx_125) rfl (flt hk2).1 ?_
      show Steps p.tables e below (s₁.setTop (mkF m 128 #[.val (.int xc)] [])) _
      exact J1_128 _ k
  have J1_110 : ∀ t, Steps p.tables e below (s₁.setTop (mkF m 133 #[.val (.int xc)] [(.int (own_x_110 xc))])) t → Steps p.tables e below (s₁.setTop (mkF m 110 #[.val (.int xc)] [])) t := by
    intro t k
    unfold own_x_110 at k
    refine XS.iloadN X0.here hx rfl (hb hby dx_110) rfl ?_
    show Steps p.tables e below (s₁.setTop (mkF m 111 #[.val (.int xc)] [(.int xc)])) _
    refine X0.ldcInt hx hown (mvT hZ (hw _ (List.mem_of_getElem? (i := 16) rfl))) (g := (mkF m 111 #[.val (.int xc)] [(.int xc)])) rfl (hb hby dx_111) _ ?_
    show Steps p.tables e below (s₁.setTop (mkF m 113 #[.val (.int xc)] [(.int (64976 : Int32)), (.int xc)])) _
    by_cases hk3 : xc < (64976 : Int32)
    · rw [if_pos hk3] at k
      refine XS.icmpYes X0.here hx rfl (pc0 := 113) (pc' := 122) rfl (hb hby dx_113) rfl (tlt hk3).1 (by decide) (by decide) ?_
      show Steps p.tables e below (s₁.setTop (mkF m 122 #[.val (.int xc)] [])) _
      exact J1_122 _ k
    · rw [if_neg hk3] at k
      refine XS.icmpNo X0.here hx rfl (hb hby dx_113) rfl (flt hk3).1 ?_
      show Steps p.tables e below (s₁.setTop (mkF m 116 #[.val (.int xc)] [])) _
      refine XS.iloadN X0.here hx rfl (hb hby dx_116) rfl ?_
      show Steps p.tables e below (s₁.setTop (mkF m 117 #[.val (.int xc)] [(.int xc)])) _
      refine X0.ldcInt hx hown (mvT hZ (hw _ (List.mem_of_getElem? (i := 23) rfl))) (g := (mkF m 117 #[.val (.int xc)] [(.int xc)])) rfl (hb hby dx_117) _ ?_
      show Steps p.tables e below (s₁.setTop (mkF m 119 #[.val (.int xc)] [(.int (65007 : Int32)), (.int xc)])) _
      by_cases hk4 : (65007 : Int32) < xc
      · rw [if_pos hk4] at k
        refine XS.icmpNo X0.here hx rfl (hb hby dx_119) rfl (tlt hk4).2.2.2 ?_
        show Steps p.tables e below (s₁.setTop (mkF m 122 #[.val (.int xc)] [])) _
        exact J1_122 _ k
      · rw [if_neg hk4] at k
        refine XS.icmpYes X0.here hx rfl (pc0 := 119) (pc' := 128) rfl (hb hby dx_119) rfl (flt hk4).2.2.2 (by decide) (by decide) ?_
        show Steps p.tables e below (s₁.setTop (mkF m 128 #[.val (.int xc)] [])) _
        exact J1_128 _ k
  have J1_98 : ∀ t, Steps p.tables e below (s₁.setTop (mkF m 133 #[.val (.int xc)] [(.int (own_x_98 xc))])) t → Steps p.tables e below (s₁.setTop (mkF m 98 #[.val (.int xc)] [])) t := by
    intro t k
    unfold own_x_98 at k
    refine XS.iloadN X0.here hx rfl (hb hby dx_98) rfl ?_
    show Steps p.tables e below (s₁.setTop (mkF m 99 #[.val (.int xc)] [(.int xc)])) _
    refine X0.ldcInt hx hown (mvT hZ (hw _ (List.mem_of_getElem? (i := 15) rfl))) (g := (mkF m 99 #[.val (.int xc)] [(.int xc)])) rfl (hb hby dx_99) _ ?_
    show Steps p.tables e below (s₁.setTop (mkF m 101 #[.val (.int xc)] [(.int (55296 : Int32)), (.int xc)])) _
    by_cases hk5 : xc < (55296 : Int32)
    · rw [if_pos hk5] at k
      refine XS.icmpYes X0.here hx rfl (pc0 := 101) (pc' := 110) rfl (hb hby dx_101) rfl (tlt hk5).1 (by decide) (by decide) ?_
      show Steps p.tables e below (s₁.setTop (mkF m 110 #[.val (.int xc)] [])) _
      exact J1_110 _ k
    · rw [if_neg hk5] at k
      refine XS.icmpNo X0.here hx rfl (hb hby dx_101) rfl (flt hk5).1 ?_
      show Steps p.tables e below (s₁.setTop (mkF m 104 #[.val (.int xc)] [])) _
      refine XS.iloadN X0.here hx rfl (hb hby dx_104) rfl ?_
      show Steps p.tables e below (s₁.setTop (mkF m 105 #[.val (.int xc)] [(.int xc)])) _
      refine X0.ldcInt hx hown (mvT hZ (hw _ (List.mem_of_getElem? (i := 22) rfl))) (g := (mkF m 105 #[.val (.int xc)] [(.int xc)])) rfl (hb hby dx_105) _ ?_
      show Steps p.tables e below (s₁.setTop (mkF m 107 #[.val (.int xc)] [(.int (63743 : Int32)), (.int xc)])) _
      by_cases hk6 : (63743 : Int32) < xc
      · rw [if_pos hk6] at k
        refine XS.icmpNo X0.here hx rfl (hb hby dx_107) rfl (tlt hk6).2.2.2 ?_
        show Steps p.tables e below (s₁.setTop (mkF m 110 #[.val (.int xc)] [])) _
        exact J1_110 _ k
      · rw [if_neg hk6] at k
        refine XS.icmpYes X0.here hx rfl (pc0 := 107) (pc' := 128) rfl (hb hby dx_107) rfl (flt hk6).2.2.2 (by decide) (by decide) ?_
        show Steps p.tables e below (s₁.setTop (mkF m 128 #[.val (.int xc)] [])) _
        exact J1_128 _ k
  have J1_84 : ∀ t, Steps p.tables e below (s₁.setTop (mkF m 133 #[.val (.int xc)] [(.int (own_x_84 xc))])) t → Steps p.tables e below (s₁.setTop (mkF m 84 #[.val (.int xc)] [])) t := by
    intro t k
    unfold own_x_84 at k
    refine XS.iloadN X0.here hx rfl (hb hby dx_84) rfl ?_
    show Steps p.tables e below (s₁.setTop (mkF m 85 #[.val (.int xc)] [(.int xc)])) _
    refine XS.sipush X0.here hx rfl (hb hby dx_85) ?_
    show Steps p.tables e below (s₁.setTop (mkF m 88 #[.val (.int xc)] [(.int (12272 : Int32)), (.int xc)])) _
    by_cases hk7 : xc < (12272 : Int32)
    · rw [if_pos hk7] at k
      refine XS.icmpYes X0.here hx rfl (pc0 := 88) (pc' := 98) rfl (hb hby dx_88) rfl (tlt hk7).1 (by decide) (by decide) ?_
      show Steps p.tables e below (s₁.setTop (mkF m 98 #[.val (.int xc)] [])) _
      exact J1_98 _ k
    · rw [if_neg hk7] at k
      refine XS.icmpNo X0.here hx rfl (hb hby dx_88) rfl (flt hk7).1 ?_
      show Steps p.tables e below (s₁.setTop (mkF m 91 #[.val (.int xc)] [])) _
      refine XS.iloadN X0.here hx rfl (hb hby dx_91) rfl ?_
      show Steps p.tables e below (s₁.setTop (mkF m 92 #[.val (.int xc)] [(.int xc)])) _
      refine XS.sipush X0.here hx rfl (hb hby dx_92) ?_
      show Steps p.tables e below (s₁.setTop (mkF m 95 #[.val (.int xc)] [(.int (12288 : Int32)), (.int xc)])) _
      by_cases hk8 : (12288 : Int32) < xc
      · rw [if_pos hk8] at k
        refine XS.icmpNo X0.here hx rfl (hb hby dx_95) rfl (tlt hk8).2.2.2 ?_
        show Steps p.tables e below (s₁.setTop (mkF m 98 #[.val (.int xc)] [])) _
        exact J1_98 _ k
      · rw [if_neg hk8] at k
        refine XS.icmpYes X0.here hx rfl (pc0 := 95) (pc' := 128) rfl (hb hby dx_95) rfl (flt hk8).2.2.2 (by decide) (by decide) ?_
        show Steps p.tables e below (s₁.setTop (mkF m 128 #[.val (.int xc)] [])) _
        exact J1_128 _ k
  have J1_70 : ∀ t, Steps p.tables e below (s₁.setTop (mkF m 133 #[.val (.int xc)] [(.int (own_x_70 xc))])) t → Steps p.tables e below (s₁.setTop (mkF m 70 #[.val (.int xc)] [])) t := by
    intro t k
    unfold own_x_70 at k
    refine XS.iloadN X0.here hx rfl (hb hby dx_70) rfl ?_
    show Steps p.tables e below (s₁.setTop (mkF m 71 #[.val (.int xc)] [(.int xc)])) _
    refine XS.sipush X0.here hx rfl (hb hby dx_71) ?_
    show Steps p.tables e below (s₁.setTop (mkF m 74 #[.val (.int xc)] [(.int (8592 : Int32)), (.int xc)])) _
    by_cases hk9 : xc < (8592 : Int32)
    · rw [if_pos hk9] at k
      refine XS.icmpYes X0.here hx rfl (pc0 := 74) (pc' := 84) rfl (hb hby dx_74) rfl (tlt hk9).1 (by decide) (by decide) ?_
      show Steps p.tables e below (s₁.setTop (mkF m 84 #[.val (.int xc)] [])) _
      exact J1_84 _ k
    · rw [if_neg hk9] at k
      refine XS.icmpNo X0.here hx rfl (hb hby dx_74) rfl (flt hk9).1 ?_
      show Steps p.tables e below (s₁.setTop (mkF m 77 #[.val (.int xc)] [])) _
      refine XS.iloadN X0.here hx rfl (hb hby dx_77) rfl ?_
      show Steps p.tables e below (s₁.setTop (mkF m 78 #[.val (.int xc)] [(.int xc)])) _
      refine XS.sipush X0.here hx rfl (hb hby dx_78) ?_
      show Steps p.tables e below (s₁.setTop (mkF m 81 #[.val (.int xc)] [(.int (11263 : Int32)), (.int xc)])) _
      by_cases hk10 : (11263 : Int32) < xc
      · rw [if_pos hk10] at k
        refine XS.icmpNo X0.here hx rfl (hb hby dx_81) rfl (tlt hk10).2.2.2 ?_
        show Steps p.tables e below (s₁.setTop (mkF m 84 #[.val (.int xc)] [])) _
        exact J1_84 _ k
      · rw [if_neg hk10] at k
        refine XS.icmpYes X0.here hx rfl (pc0 := 81) (pc' := 128) rfl (hb hby dx_81) rfl (flt hk10).2.2.2 (by decide) (by decide) ?_
        show Steps p.tables e below (s₁.setTop (mkF m 128 #[.val (.int xc)] [])) _
        exact J1_128 _ k
  have J1_56 : ∀ t, Steps p.tables e below (s₁.setTop (mkF m 133 #[.val (.int xc)] [(.int (own_x_56 xc))])) t → Steps p.tables e below (s₁.setTop (mkF m 56 #[.val (.int xc)] [])) t := by
    intro t k
    unfold own_x_56 at k
    refine XS.iloadN X0.here hx rfl (hb hby dx_56) rfl ?_
    show Steps p.tables e below (s₁.setTop (mkF m 57 #[.val (.int xc)] [(.int xc)])) _
    refine XS.sipush X0.here hx rfl (hb hby dx_57) ?_
    show Steps p.tables e below (s₁.setTop (mkF m 60 #[.val (.int xc)] [(.int (8206 : Int32)), (.int xc)])) _
    by_cases hk11 : xc < (8206 : Int32)
    · rw [if_pos hk11] at k
      refine XS.icmpYes X0.here hx rfl (pc0 := 60) (pc' := 70) rfl (hb hby dx_60) rfl (tlt hk11).1 (by decide) (by decide) ?_
      show Steps p.tables e below (s₁.setTop (mkF m 70 #[.val (.int xc)] [])) _
      exact J1_70 _ k
    · rw [if_neg hk11] at k
      refine XS.icmpNo X0.here hx rfl (hb hby dx_60) rfl (flt hk11).1 ?_
      show Steps p.tables e below (s₁.setTop (mkF m 63 #[.val (.int xc)] [])) _
      refine XS.iloadN X0.here hx rfl (hb hby dx_63) rfl ?_
      show Steps p.tables e below (s₁.setTop (mkF m 64 #[.val (.int xc)] [(.int xc)])) _
      refine XS.sipush X0.here hx rfl (hb hby dx_64) ?_
      show Steps p.tables e below (s₁.setTop (mkF m 67 #[.val (.int xc)] [(.int (8303 : Int32)), (.int xc)])) _
      by_cases hk12 : (8303 : Int32) < xc
      · rw [if_pos hk12] at k
        refine XS.icmpNo X0.here hx rfl (hb hby dx_67) rfl (tlt hk12).2.2.2 ?_
        show Steps p.tables e below (s₁.setTop (mkF m 70 #[.val (.int xc)] [])) _
        exact J1_70 _ k
      · rw [if_neg hk12] at k
        refine XS.icmpYes X0.here hx rfl (pc0 := 67) (pc' := 128) rfl (hb hby dx_67) rfl (flt hk12).2.2.2 (by decide) (by decide) ?_
        show Steps p.tables e below (s₁.setTop (mkF m 128 #[.val (.int xc)] [])) _
        exact J1_128 _ k
  have J1_35 : ∀ t, Steps p.tables e below (s₁.setTop (mkF m 133 #[.val (.int xc)] [(.int (own_x_35 xc))])) t → Steps p.tables e below (s₁.setTop (mkF m 35 #[.val (.int xc)] [])) t := by
    intro t k
    unfold own_x_35 at k
    refine XS.iloadN X0.here hx rfl (hb hby dx_35) rfl ?_
    show Steps p.tables e below (s₁.setTop (mkF m 36 #[.val (.int xc)] [(.int xc)])) _
    refine XS.sipush X0.here hx rfl (hb hby dx_36) ?_
    show Steps p.tables e below (s₁.setTop (mkF m 39 #[.val (.int xc)] [(.int (894 : Int32)), (.int xc)])) _
    by_cases hk13 : xc = (894 : Int32)
    · rw [if_pos hk13] at k
      refine XS.icmpYes X0.here hx rfl (pc0 := 39) (pc' := 128) rfl (hb hby dx_39) rfl (teq hk13).1 (by decide) (by decide) ?_
      show Steps p.tables e below (s₁.setTop (mkF m 128 #[.val (.int xc)] [])) _
      exact J1_128 _ k
    · rw [if_neg hk13] at k
      refine XS.icmpNo X0.here hx rfl (hb hby dx_39) rfl (feq hk13).1 ?_
      show Steps p.tables e below (s₁.setTop (mkF m 42 #[.val (.int xc)] [])) _
      refine XS.iloadN X0.here hx rfl (hb hby dx_42) rfl ?_
      show Steps p.tables e below (s₁.setTop (mkF m 43 #[.val (.int xc)] [(.int xc)])) _
      refine XS.sipush X0.here hx rfl (hb hby dx_43) ?_
      show Steps p.tables e below (s₁.setTop (mkF m 46 #[.val (.int xc)] [(.int (8192 : Int32)), (.int xc)])) _
      by_cases hk14 : xc < (8192 : Int32)
      · rw [if_pos hk14] at k
        refine XS.icmpYes X0.here hx rfl (pc0 := 46) (pc' := 56) rfl (hb hby dx_46) rfl (tlt hk14).1 (by decide) (by decide) ?_
        show Steps p.tables e below (s₁.setTop (mkF m 56 #[.val (.int xc)] [])) _
        exact J1_56 _ k
      · rw [if_neg hk14] at k
        refine XS.icmpNo X0.here hx rfl (hb hby dx_46) rfl (flt hk14).1 ?_
        show Steps p.tables e below (s₁.setTop (mkF m 49 #[.val (.int xc)] [])) _
        refine XS.iloadN X0.here hx rfl (hb hby dx_49) rfl ?_
        show Steps p.tables e below (s₁.setTop (mkF m 50 #[.val (.int xc)] [(.int xc)])) _
        refine XS.sipush X0.here hx rfl (hb hby dx_50) ?_
        show Steps p.tables e below (s₁.setTop (mkF m 53 #[.val (.int xc)] [(.int (8203 : Int32)), (.int xc)])) _
        by_cases hk15 : (8203 : Int32) < xc
        · rw [if_pos hk15] at k
          refine XS.icmpNo X0.here hx rfl (hb hby dx_53) rfl (tlt hk15).2.2.2 ?_
          show Steps p.tables e below (s₁.setTop (mkF m 56 #[.val (.int xc)] [])) _
          exact J1_56 _ k
        · rw [if_neg hk15] at k
          refine XS.icmpYes X0.here hx rfl (pc0 := 53) (pc' := 128) rfl (hb hby dx_53) rfl (flt hk15).2.2.2 (by decide) (by decide) ?_
          show Steps p.tables e below (s₁.setTop (mkF m 128 #[.val (.int xc)] [])) _
          exact J1_128 _ k
  have J1_0 : ∀ t, Steps p.tables e below (s₁.setTop (mkF m 133 #[.val (.int xc)] [(.int (own_x_0 xc))])) t → Steps p.tables e below (s₁.setTop (mkF m 0 #[.val (.int xc)] [])) t := by
    intro t k
    unfold own_x_0 at k
    refine XS.iloadN X0.here hx rfl (hb hby dx_0) rfl ?_
    show Steps p.tables e below (s₁.setTop (mkF m 1 #[.val (.int xc)] [(.int xc)])) _
    refine XS.sipush X0.here hx rfl (hb hby dx_1) ?_
    show Steps p.tables e below (s₁.setTop (mkF m 4 #[.val (.int xc)] [(.int (191 : Int32)), (.int xc)])) _
    by_cases hk16 : (191 : Int32) < xc
    · rw [if_pos hk16] at k
      refine XS.icmpNo X0.here hx rfl (hb hby dx_4) rfl (tlt hk16).2.2.2 ?_
      show Steps p.tables e below (s₁.setTop (mkF m 7 #[.val (.int xc)] [])) _
      refine XS.iloadN X0.here hx rfl (hb hby dx_7) rfl ?_
      show Steps p.tables e below (s₁.setTop (mkF m 8 #[.val (.int xc)] [(.int xc)])) _
      refine XS.sipush X0.here hx rfl (hb hby dx_8) ?_
      show Steps p.tables e below (s₁.setTop (mkF m 11 #[.val (.int xc)] [(.int (215 : Int32)), (.int xc)])) _
      by_cases hk17 : xc = (215 : Int32)
      · rw [if_pos hk17] at k
        refine XS.icmpYes X0.here hx rfl (pc0 := 11) (pc' := 128) rfl (hb hby dx_11) rfl (teq hk17).1 (by decide) (by decide) ?_
        show Steps p.tables e below (s₁.setTop (mkF m 128 #[.val (.int xc)] [])) _
        exact J1_128 _ k
      · rw [if_neg hk17] at k
        refine XS.icmpNo X0.here hx rfl (hb hby dx_11) rfl (feq hk17).1 ?_
        show Steps p.tables e below (s₁.setTop (mkF m 14 #[.val (.int xc)] [])) _
        refine XS.iloadN X0.here hx rfl (hb hby dx_14) rfl ?_
        show Steps p.tables e below (s₁.setTop (mkF m 15 #[.val (.int xc)] [(.int xc)])) _
        refine XS.sipush X0.here hx rfl (hb hby dx_15) ?_
        show Steps p.tables e below (s₁.setTop (mkF m 18 #[.val (.int xc)] [(.int (247 : Int32)), (.int xc)])) _
        by_cases hk18 : xc = (247 : Int32)
        · rw [if_pos hk18] at k
          refine XS.icmpYes X0.here hx rfl (pc0 := 18) (pc' := 128) rfl (hb hby dx_18) rfl (teq hk18).1 (by decide) (by decide) ?_
          show Steps p.tables e below (s₁.setTop (mkF m 128 #[.val (.int xc)] [])) _
          exact J1_128 _ k
        · rw [if_neg hk18] at k
          refine XS.icmpNo X0.here hx rfl (hb hby dx_18) rfl (feq hk18).1 ?_
          show Steps p.tables e below (s₁.setTop (mkF m 21 #[.val (.int xc)] [])) _
          refine XS.iloadN X0.here hx rfl (hb hby dx_21) rfl ?_
          show Steps p.tables e below (s₁.setTop (mkF m 22 #[.val (.int xc)] [(.int xc)])) _
          refine XS.sipush X0.here hx rfl (hb hby dx_22) ?_
          show Steps p.tables e below (s₁.setTop (mkF m 25 #[.val (.int xc)] [(.int (768 : Int32)), (.int xc)])) _
          by_cases hk19 : xc < (768 : Int32)
          · rw [if_pos hk19] at k
            refine XS.icmpYes X0.here hx rfl (pc0 := 25) (pc' := 35) rfl (hb hby dx_25) rfl (tlt hk19).1 (by decide) (by decide) ?_
            show Steps p.tables e below (s₁.setTop (mkF m 35 #[.val (.int xc)] [])) _
            exact J1_35 _ k
          · rw [if_neg hk19] at k
            refine XS.icmpNo X0.here hx rfl (hb hby dx_25) rfl (flt hk19).1 ?_
            show Steps p.tables e below (s₁.setTop (mkF m 28 #[.val (.int xc)] [])) _
            refine XS.iloadN X0.here hx rfl (hb hby dx_28) rfl ?_
            show Steps p.tables e below (s₁.setTop (mkF m 29 #[.val (.int xc)] [(.int xc)])) _
            refine XS.sipush X0.here hx rfl (hb hby dx_29) ?_
            show Steps p.tables e below (s₁.setTop (mkF m 32 #[.val (.int xc)] [(.int (879 : Int32)), (.int xc)])) _
            by_cases hk20 : (879 : Int32) < xc
            · rw [if_pos hk20] at k
              refine XS.icmpNo X0.here hx rfl (hb hby dx_32) rfl (tlt hk20).2.2.2 ?_
              show Steps p.tables e below (s₁.setTop (mkF m 35 #[.val (.int xc)] [])) _
              exact J1_35 _ k
            · rw [if_neg hk20] at k
              refine XS.icmpYes X0.here hx rfl (pc0 := 32) (pc' := 128) rfl (hb hby dx_32) rfl (flt hk20).2.2.2 (by decide) (by decide) ?_
              show Steps p.tables e below (s₁.setTop (mkF m 128 #[.val (.int xc)] [])) _
              exact J1_128 _ k
    · rw [if_neg hk16] at k
      refine XS.icmpYes X0.here hx rfl (pc0 := 4) (pc' := 128) rfl (hb hby dx_4) rfl (flt hk16).2.2.2 (by decide) (by decide) ?_
      show Steps p.tables e below (s₁.setTop (mkF m 128 #[.val (.int xc)] [])) _
      exact J1_128 _ k
  have A21 : ∀ t, Steps p.tables e below (s₁.setTop (mkF m 133 #[.val (.int xc)] [(.int (own_x_0 xc))])) t → Steps p.tables e below (s₁.setTop (entryFrame m #[(.int xc)] 1)) t := fun t k => A0 _ (J1_0 _ k)
  obtain ⟨fs, hr, hrun, hended, hW, hsame⟩ := X0.leave (v := some (.int (own_x_0 xc))) (fun h => by rw [Bd.returns] at h; cases h)
  refine ⟨_, _, A21 _ ?_, hrun, hended, _, _, rfl, ?_, ⟨_, rfl⟩, hW, hsame.mono (by decide) (by decide)⟩
  · exact own_retN X0 hx (t := .boolean) Bd.returns (by simp) (own_nb (own_x_01 xc)) (hb hby dx_133) hr
  · show own_Qexc Z xc h0 n0 _ s₁.heap _
    rw [e0]
    exact ⟨rfl, N0, rfl⟩
def own_Qexp (Z : State) (xc : Int32) (h0 : Heap) (n0 : Nat) (v : Option Value) (h : Heap) (L : List Loc) : Prop := v = some (.int (own_exp xc)) ∧ Fr n0 L ∧ h = h0
theorem own_expM_ef (m : MethodId) (x0 : Int32) : entryFrame m #[(.int x0)] 1 = mkF m 0 #[.val (.int x0)] [] := by first | (simp [entryFrame, mkF, argsToLocals, Value.category]; done) | rfl
set_option maxRecDepth 65536 in
set_option maxHeartbeats 40000000 in
theorem own_expM (l : Launch) (Z : State) (a0 : Array Value) (hw : ∀ d ∈ tables_1, d.before a0 Z = true) (ws : List Jvm.Cond) (xc : Int32) (h0 : Heap) (n0 : Nat) (Z0 : n0 ≤ h0.size)  :
    MetFree l (⟨"mortisebind/runtime/XmlCharactersIsNameStartPinLaw", "expected", "(I)Z"⟩ : MethodName) (head1 (Jvm.Cond.code (⟨"mortisebind/runtime/XmlCharactersIsNameStartPinLaw", "expected", "(I)Z"⟩ : MethodName) method_3_code 1 (some .boolean) :: ws) ({ frames := 1, cells := 0, slots := 0, locals := 12 } : Room)) (fun a U => a = #[(.int xc)] ∧ Z.Warmed39 U.vm ∧ U.heap = h0) (fun _ _ _ _ _ => True) (fun _ U o U' => ∃ v L, o = .returned v ∧ own_Qexp Z xc h0 n0 v U'.heap L ∧ FrameEnd U o U' L ({ frames := 1, cells := 0, slots := 0, locals := 12 } : Room).cells ({ frames := 1, cells := 0, slots := 0, locals := 12 } : Room).slots) := by
  refine MetFree.of_bodySF (plainFor_of_name own_pn0) hisR ?_
  intro p e s m args below meth c s₁ Bd hml0 hP hK
  obtain ⟨rfl, hZ, hh⟩ := hP
  have hx := Bd.exec
  have hby := Bd.bytes
  have hml : c.maxLocals = 1 := hml0
  have hown : s.vm.findClass "mortisebind/runtime/XmlCharactersIsNameStartPinLaw" = some m.cls := findClass_of_methodNamed Bd.named
  have hnm := (name_of_methodNamed Bd.named Bd.method).1
  have X0 : Stand p l e ({ frames := 1, cells := 0, slots := 0, locals := 12 } : Room) s m #[(.int xc)] below meth c s₁ [] 0 0 := Stand.of_body Bd
  have e0 : s₁.heap = h0 := by rw [← hh, Bd.state]; rfl
  have N0 := Fr.nil n0
  have A0 : ∀ t, Steps p.tables e below (s₁.setTop (mkF m 0 #[.val (.int xc)] [])) t → Steps p.tables e below (s₁.setTop (entryFrame m #[(.int xc)] 1)) t := fun t k => castTop (own_expM_ef m xc) k
  have A22 : ∀ t, Steps p.tables e below (s₁.setTop (mkF m 4 #[.val (.int xc)] [(.int (128 : Int32)), (.int xc)])) t → Steps p.tables e below (s₁.setTop (entryFrame m #[(.int xc)] 1)) t := by
    intro t k
    refine A0 _ ?_
    refine XS.iloadN X0.here hx rfl (hb hby de_0) rfl ?_
    show Steps p.tables e below (s₁.setTop (mkF m 1 #[.val (.int xc)] [(.int xc)])) _
    refine XS.sipush X0.here hx rfl (hb hby de_1) ?_
    show Steps p.tables e below (s₁.setTop (mkF m 4 #[.val (.int xc)] [(.int (128 : Int32)), (.int xc)])) _
    exact k
  by_cases hlow : xc < (128 : Int32)
  · have A23 : ∀ t, Steps p.tables e below (s₁.setTop (mkF m 7 #[.val (.int xc)] [])) t → Steps p.tables e below (s₁.setTop (entryFrame m #[(.int xc)] 1)) t := by
      intro t k
      refine A22 _ ?_
      refine XS.icmpNo X0.here hx rfl (hb hby de_4) rfl (tlt hlow).2.1 ?_
      show Steps p.tables e below (s₁.setTop (mkF m 7 #[.val (.int xc)] [])) _
      exact k
    have J24_47 : ∀ t, Steps p.tables e below (s₁.setTop (mkF m 48 #[.val (.int xc)] [(.int (own_e_47 xc))])) t → Steps p.tables e below (s₁.setTop (mkF m 47 #[.val (.int xc)] [])) t := by
      intro t k
      unfold own_e_47 at k
      refine XS.iconst X0.here hx rfl (hb hby de_47) ?_
      show Steps p.tables e below (s₁.setTop (mkF m 48 #[.val (.int xc)] [(.int (0 : Int32))])) _
      exact k
    have J24_43 : ∀ t, Steps p.tables e below (s₁.setTop (mkF m 48 #[.val (.int xc)] [(.int (own_e_43 xc))])) t → Steps p.tables e below (s₁.setTop (mkF m 43 #[.val (.int xc)] [])) t := by
      intro t k
      unfold own_e_43 at k
      refine XS.iconst X0.here hx rfl (hb hby de_43) ?_
      show Steps p.tables e below (s₁.setTop (mkF m 44 #[.val (.int xc)] [(.int (1 : Int32))])) _
      refine XS.goto X0.here hx rfl (pc0 := 44) (pc' := 48) rfl (hb hby de_44) (by decide) (by decide) ?_
      show Steps p.tables e below (s₁.setTop (mkF m 48 #[.val (.int xc)] [(.int (1 : Int32))])) _
      exact k
    have J24_31 : ∀ t, Steps p.tables e below (s₁.setTop (mkF m 48 #[.val (.int xc)] [(.int (own_e_31 xc))])) t → Steps p.tables e below (s₁.setTop (mkF m 31 #[.val (.int xc)] [])) t := by
      intro t k
      unfold own_e_31 at k
      refine XS.iloadN X0.here hx rfl (hb hby de_31) rfl ?_
      show Steps p.tables e below (s₁.setTop (mkF m 32 #[.val (.int xc)] [(.int xc)])) _
      refine XS.bipush X0.here hx rfl (hb hby de_32) ?_
      show Steps p.tables e below (s₁.setTop (mkF m 34 #[.val (.int xc)] [(.int (58 : Int32)), (.int xc)])) _
      by_cases hk25 : xc = (58 : Int32)
      · rw [if_pos hk25] at k
        refine XS.icmpYes X0.here hx rfl (pc0 := 34) (pc' := 43) rfl (hb hby de_34) rfl (teq hk25).1 (by decide) (by decide) ?_
        show Steps p.tables e below (s₁.setTop (mkF m 43 #[.val (.int xc)] [])) _
        exact J24_43 _ k
      · rw [if_neg hk25] at k
        refine XS.icmpNo X0.here hx rfl (hb hby de_34) rfl (feq hk25).1 ?_
        show Steps p.tables e below (s₁.setTop (mkF m 37 #[.val (.int xc)] [])) _
        refine XS.iloadN X0.here hx rfl (hb hby de_37) rfl ?_
        show Steps p.tables e below (s₁.setTop (mkF m 38 #[.val (.int xc)] [(.int xc)])) _
        refine XS.bipush X0.here hx rfl (hb hby de_38) ?_
        show Steps p.tables e below (s₁.setTop (mkF m 40 #[.val (.int xc)] [(.int (95 : Int32)), (.int xc)])) _
        by_cases hk26 : xc = (95 : Int32)
        · rw [if_pos hk26] at k
          refine XS.icmpNo X0.here hx rfl (hb hby de_40) rfl (teq hk26).2 ?_
          show Steps p.tables e below (s₁.setTop (mkF m 43 #[.val (.int xc)] [])) _
          exact J24_43 _ k
        · rw [if_neg hk26] at k
          refine XS.icmpYes X0.here hx rfl (pc0 := 40) (pc' := 47) rfl (hb hby de_40) rfl (feq hk26).2 (by decide) (by decide) ?_
          show Steps p.tables e below (s₁.setTop (mkF m 47 #[.val (.int xc)] [])) _
          exact J24_47 _ k
    have J24_19 : ∀ t, Steps p.tables e below (s₁.setTop (mkF m 48 #[.val (.int xc)] [(.int (own_e_19 xc))])) t → Steps p.tables e below (s₁.setTop (mkF m 19 #[.val (.int xc)] [])) t := by
      intro t k
      unfold own_e_19 at k
      refine XS.iloadN X0.here hx rfl (hb hby de_19) rfl ?_
      show Steps p.tables e below (s₁.setTop (mkF m 20 #[.val (.int xc)] [(.int xc)])) _
      refine XS.bipush X0.here hx rfl (hb hby de_20) ?_
      show Steps p.tables e below (s₁.setTop (mkF m 22 #[.val (.int xc)] [(.int (97 : Int32)), (.int xc)])) _
      by_cases hk27 : xc < (97 : Int32)
      · rw [if_pos hk27] at k
        refine XS.icmpYes X0.here hx rfl (pc0 := 22) (pc' := 31) rfl (hb hby de_22) rfl (tlt hk27).1 (by decide) (by decide) ?_
        show Steps p.tables e below (s₁.setTop (mkF m 31 #[.val (.int xc)] [])) _
        exact J24_31 _ k
      · rw [if_neg hk27] at k
        refine XS.icmpNo X0.here hx rfl (hb hby de_22) rfl (flt hk27).1 ?_
        show Steps p.tables e below (s₁.setTop (mkF m 25 #[.val (.int xc)] [])) _
        refine XS.iloadN X0.here hx rfl (hb hby de_25) rfl ?_
        show Steps p.tables e below (s₁.setTop (mkF m 26 #[.val (.int xc)] [(.int xc)])) _
        refine XS.bipush X0.here hx rfl (hb hby de_26) ?_
        show Steps p.tables e below (s₁.setTop (mkF m 28 #[.val (.int xc)] [(.int (122 : Int32)), (.int xc)])) _
        by_cases hk28 : (122 : Int32) < xc
        · rw [if_pos hk28] at k
          refine XS.icmpNo X0.here hx rfl (hb hby de_28) rfl (tlt hk28).2.2.2 ?_
          show Steps p.tables e below (s₁.setTop (mkF m 31 #[.val (.int xc)] [])) _
          exact J24_31 _ k
        · rw [if_neg hk28] at k
          refine XS.icmpYes X0.here hx rfl (pc0 := 28) (pc' := 43) rfl (hb hby de_28) rfl (flt hk28).2.2.2 (by decide) (by decide) ?_
          show Steps p.tables e below (s₁.setTop (mkF m 43 #[.val (.int xc)] [])) _
          exact J24_43 _ k
    have J24_7 : ∀ t, Steps p.tables e below (s₁.setTop (mkF m 48 #[.val (.int xc)] [(.int (own_e_7 xc))])) t → Steps p.tables e below (s₁.setTop (mkF m 7 #[.val (.int xc)] [])) t := by
      intro t k
      unfold own_e_7 at k
      refine XS.iloadN X0.here hx rfl (hb hby de_7) rfl ?_
      show Steps p.tables e below (s₁.setTop (mkF m 8 #[.val (.int xc)] [(.int xc)])) _
      refine XS.bipush X0.here hx rfl (hb hby de_8) ?_
      show Steps p.tables e below (s₁.setTop (mkF m 10 #[.val (.int xc)] [(.int (65 : Int32)), (.int xc)])) _
      by_cases hk29 : xc < (65 : Int32)
      · rw [if_pos hk29] at k
        refine XS.icmpYes X0.here hx rfl (pc0 := 10) (pc' := 19) rfl (hb hby de_10) rfl (tlt hk29).1 (by decide) (by decide) ?_
        show Steps p.tables e below (s₁.setTop (mkF m 19 #[.val (.int xc)] [])) _
        exact J24_19 _ k
      · rw [if_neg hk29] at k
        refine XS.icmpNo X0.here hx rfl (hb hby de_10) rfl (flt hk29).1 ?_
        show Steps p.tables e below (s₁.setTop (mkF m 13 #[.val (.int xc)] [])) _
        refine XS.iloadN X0.here hx rfl (hb hby de_13) rfl ?_
        show Steps p.tables e below (s₁.setTop (mkF m 14 #[.val (.int xc)] [(.int xc)])) _
        refine XS.bipush X0.here hx rfl (hb hby de_14) ?_
        show Steps p.tables e below (s₁.setTop (mkF m 16 #[.val (.int xc)] [(.int (90 : Int32)), (.int xc)])) _
        by_cases hk30 : (90 : Int32) < xc
        · rw [if_pos hk30] at k
          refine XS.icmpNo X0.here hx rfl (hb hby de_16) rfl (tlt hk30).2.2.2 ?_
          show Steps p.tables e below (s₁.setTop (mkF m 19 #[.val (.int xc)] [])) _
          exact J24_19 _ k
        · rw [if_neg hk30] at k
          refine XS.icmpYes X0.here hx rfl (pc0 := 16) (pc' := 43) rfl (hb hby de_16) rfl (flt hk30).2.2.2 (by decide) (by decide) ?_
          show Steps p.tables e below (s₁.setTop (mkF m 43 #[.val (.int xc)] [])) _
          exact J24_43 _ k
    have A31 : ∀ t, Steps p.tables e below (s₁.setTop (mkF m 48 #[.val (.int xc)] [(.int (own_e_7 xc))])) t → Steps p.tables e below (s₁.setTop (entryFrame m #[(.int xc)] 1)) t := fun t k => A23 _ (J24_7 _ k)
    obtain ⟨fs, hr, hrun, hended, hW, hsame⟩ := X0.leave (v := some (.int (own_e_7 xc))) (fun h => by rw [Bd.returns] at h; cases h)
    refine ⟨_, _, A31 _ ?_, hrun, hended, _, _, rfl, ?_, ⟨_, rfl⟩, hW, hsame.mono (by decide) (by decide)⟩
    · exact own_retN X0 hx (t := .boolean) Bd.returns (by simp) (own_nb (own_e_01 xc)) (hb hby de_48) hr
    · show own_Qexp Z xc h0 n0 _ s₁.heap _
      rw [e0]
      exact ⟨by simp [own_exp, hlow], N0, rfl⟩
  · have A32 : ∀ t, Steps p.tables e below (s₁.setTop (mkF m 50 #[.val (.int xc)] [(.int xc)])) t → Steps p.tables e below (s₁.setTop (entryFrame m #[(.int xc)] 1)) t := by
      intro t k
      refine A22 _ ?_
      refine XS.icmpYes X0.here hx rfl (pc0 := 4) (pc' := 49) rfl (hb hby de_4) rfl (flt hlow).2.1 (by decide) (by decide) ?_
      show Steps p.tables e below (s₁.setTop (mkF m 49 #[.val (.int xc)] [])) _
      refine XS.iloadN X0.here hx rfl (hb hby de_49) rfl ?_
      show Steps p.tables e below (s₁.setTop (mkF m 50 #[.val (.int xc)] [(.int xc)])) _
      exact k
    obtain ⟨_, _, ⟨T33, L33, k33, n33⟩, -, X33, ⟨Lc33, hQ33, l33, y33, z33⟩, st33⟩ := Jvm.LawKit.callS X0 hx (y := (⟨"mortisebind/runtime/XmlCharactersIsNameStartPinLaw", "excluded", "(I)Z"⟩ : MethodName)) hown (mvT hZ (hw _ (List.mem_of_getElem? (i := 12) rfl))) (mvT hZ (hw _ (List.mem_of_getElem? (i := 13) rfl))) (mvT hZ (hw _ (List.mem_of_getElem? (i := 9) rfl))) (mvT hZ (hw _ (List.mem_of_getElem? (i := 14) rfl))) (by decide) (backOf (W := 0) (own_exc l Z a0 hw [] xc h0 n0 Z0) hZ (hw _ (List.mem_of_getElem? (i := 14) rfl)) (hw _ (List.mem_of_getElem? (i := 9) rfl)) (by decide) (by decide)) (g := (mkF m 50 #[.val (.int xc)] [(.int xc)])) rfl (by rw [hml]; rfl) (argsL := [(.int xc)]) (rest := []) (lenOf own_pd0 rfl) rfl (by show 2 * 0 + _ ≤ _; exact Nat.le_of_eq rfl) (hb hby de_50) (fun _ _ => ⟨rfl, e0, (by decide : 0 + 0 ≤ _), (by decide : 0 + 0 ≤ _)⟩)
    dsimp only [Pt.U, Pt.locs, Pt.cells, Pt.slots] at X33 l33 y33 z33 st33 hQ33
    subst l33 y33 z33
    obtain ⟨rfl, Nq33, eh33⟩ := hQ33
    have Nf34 := Fr.app N0 Nq33
    have A35 : ∀ t, Steps p.tables e below (T33.setTop (mkF m 53 #[.val (.int xc)] [(.int (own_x_0 xc))])) t → Steps p.tables e below (s₁.setTop (entryFrame m #[(.int xc)] 1)) t := by
      intro t k
      refine A32 _ ?_
      refine st33 _ ?_
      show Steps p.tables e below (T33.setTop (mkF m 53 #[.val (.int xc)] [(.int (own_x_0 xc))])) _
      exact k
    obtain ⟨u37, hu37⟩ : ∃ u : Int32, u = (if (own_x_0 xc) = (0 : Int32) then (1 : Int32) else (0 : Int32)) := ⟨_, rfl⟩
    have A38 : ∀ t, Steps p.tables e below (T33.setTop (mkF m 61 #[.val (.int xc)] [(.int u37)])) t → Steps p.tables e below (s₁.setTop (entryFrame m #[(.int xc)] 1)) t := by
      intro t k
      refine A35 _ ?_
      by_cases hj36 : (own_x_0 xc) = (0 : Int32)
      · refine XS.ifNo X33.here hx rfl (hb hby de_53) rfl ((if0 _ _).trans (teq hj36).2) ?_
        show Steps p.tables e below (T33.setTop (mkF m 56 #[.val (.int xc)] [])) _
        refine XS.iconst X33.here hx rfl (hb hby de_56) ?_
        show Steps p.tables e below (T33.setTop (mkF m 57 #[.val (.int xc)] [(.int (1 : Int32))])) _
        refine XS.goto X33.here hx rfl (pc0 := 57) (pc' := 61) rfl (hb hby de_57) (by decide) (by decide) ?_
        show Steps p.tables e below (T33.setTop (mkF m 61 #[.val (.int xc)] [(.int (1 : Int32))])) _
        have qu37 : u37 = (1 : Int32) := by first | (rw [hu37]; simp only [if_pos hj36]; done) | (rw [hu37]; simp [hj36]; done)
        rw [qu37] at k
        exact k
      · refine XS.ifYes X33.here hx rfl (pc0 := 53) (pc' := 60) rfl (hb hby de_53) rfl ((if0 _ _).trans (feq hj36).2) (by decide) (by decide) ?_
        show Steps p.tables e below (T33.setTop (mkF m 60 #[.val (.int xc)] [])) _
        refine XS.iconst X33.here hx rfl (hb hby de_60) ?_
        show Steps p.tables e below (T33.setTop (mkF m 61 #[.val (.int xc)] [(.int (0 : Int32))])) _
        have qu37 : u37 = (0 : Int32) := by first | (rw [hu37]; simp only [if_neg hj36]; done) | (rw [hu37]; simp [hj36]; done)
        rw [qu37] at k
        exact k
    have hb1 : u37 = 0 ∨ u37 = 1 := by rw [hu37]; split <;> simp
    obtain ⟨fs, hr, hrun, hended, hW, hsame⟩ := X33.leave (v := some (.int u37)) (fun h => by rw [Bd.returns] at h; cases h)
    refine ⟨_, _, A38 _ ?_, hrun, hended, _, _, rfl, ?_, ⟨_, rfl⟩, hW, hsame.mono (by decide) (by decide)⟩
    · exact own_retN X33 hx (t := .boolean) Bd.returns (by simp) (own_nb (hb1)) (hb hby de_61) hr
    · show own_Qexp Z xc h0 n0 _ T33.heap _
      rw [eh33]
      exact ⟨by rw [hu37]; simp [own_exp, hlow], Nf34, rfl⟩
def own_Qns (Z : State) (xc b : Int32) (h0 : Heap) (n0 : Nat) (v : Option Value) (h : Heap) (L : List Loc) : Prop := v = some (.int (own_ns xc b)) ∧ Fr n0 L ∧ h = h0
theorem own_nsM_ef (m : MethodId) (x0 : Int32) : entryFrame m #[(.int x0)] 1 = mkF m 0 #[.val (.int x0)] [] := by first | (simp [entryFrame, mkF, argsToLocals, Value.category]; done) | rfl
set_option maxRecDepth 65536 in
set_option maxHeartbeats 40000000 in
theorem own_nsM (l : Launch) (Z : State) (a0 : Array Value) (hw : ∀ d ∈ tables_1, d.before a0 Z = true) (ws : List Jvm.Cond) (xc : Int32) (va : Addr) (cl : Cell) (h0 : Heap) (n0 : Nat) (Z0 : n0 ≤ h0.size) (hc0 : ¬ xc < 0) (S0 : Sta Z h0 "mortisebind/runtime/XmlCharacters" "ASCII" "[B" (.ref va)) (TB : Tab Z h0 va cl .byte 128) :
    MetFree l (⟨"mortisebind/runtime/XmlCharacters", "isNameStart", "(C)Z"⟩ : MethodName) (head1 (Jvm.Cond.code (⟨"mortisebind/runtime/XmlCharacters", "isNameStart", "(C)Z"⟩ : MethodName) prog_47_method_7_code 1 (some .boolean) :: ws) ({ frames := 0, cells := 0, slots := 0, locals := 0 } : Room)) (fun a U => a = #[(.int xc)] ∧ Z.Warmed39 U.vm ∧ U.heap = h0) (fun _ _ _ _ _ => True) (fun _ U o U' => ∃ v L, o = .returned v ∧ own_Qns Z xc (atv cl xc) h0 n0 v U'.heap L ∧ FrameEnd U o U' L ({ frames := 0, cells := 0, slots := 0, locals := 0 } : Room).cells ({ frames := 0, cells := 0, slots := 0, locals := 0 } : Room).slots) := by
  refine MetFree.of_bodySF (plainFor_of_name own_pn1) hisR ?_
  intro p e s m args below meth c s₁ Bd hml0 hP hK
  obtain ⟨rfl, hZ, hh⟩ := hP
  have hx := Bd.exec
  have hby := Bd.bytes
  have hml : c.maxLocals = 1 := hml0
  have hown : s.vm.findClass "mortisebind/runtime/XmlCharacters" = some m.cls := findClass_of_methodNamed Bd.named
  have hnm := (name_of_methodNamed Bd.named Bd.method).1
  have X0 : Stand p l e ({ frames := 0, cells := 0, slots := 0, locals := 0 } : Room) s m #[(.int xc)] below meth c s₁ [] 0 0 := Stand.of_body Bd
  have e0 : s₁.heap = h0 := by rw [← hh, Bd.state]; rfl
  have N0 := Fr.nil n0
  have A0 : ∀ t, Steps p.tables e below (s₁.setTop (mkF m 0 #[.val (.int xc)] [])) t → Steps p.tables e below (s₁.setTop (entryFrame m #[(.int xc)] 1)) t := fun t k => castTop (own_nsM_ef m xc) k
  have A39 : ∀ t, Steps p.tables e below (s₁.setTop (mkF m 4 #[.val (.int xc)] [(.int (128 : Int32)), (.int xc)])) t → Steps p.tables e below (s₁.setTop (entryFrame m #[(.int xc)] 1)) t := by
    intro t k
    refine A0 _ ?_
    refine XS.iloadN X0.here hx rfl (hb hby dn_0) rfl ?_
    show Steps p.tables e below (s₁.setTop (mkF m 1 #[.val (.int xc)] [(.int xc)])) _
    refine XS.sipush X0.here hx rfl (hb hby dn_1) ?_
    show Steps p.tables e below (s₁.setTop (mkF m 4 #[.val (.int xc)] [(.int (128 : Int32)), (.int xc)])) _
    exact k
  by_cases hlow : xc < (128 : Int32)
  · have A40 : ∀ t, Steps p.tables e below (s₁.setTop (mkF m 7 #[.val (.int xc)] [])) t → Steps p.tables e below (s₁.setTop (entryFrame m #[(.int xc)] 1)) t := by
      intro t k
      refine A39 _ ?_
      refine XS.icmpNo X0.here hx rfl (hb hby dn_4) rfl (tlt hlow).2.1 ?_
      show Steps p.tables e below (s₁.setTop (mkF m 7 #[.val (.int xc)] [])) _
      exact k
    obtain ⟨T41, X41, e41, st41⟩ := getS2 X0 hx hZ hown (host := "") (Or.inl (hw _ (List.mem_of_getElem? (i := 5) rfl))) Via.refl e0 S0 (g := (mkF m 7 #[.val (.int xc)] [])) rfl (hb hby dn_7)
    have A42 : ∀ t, Steps p.tables e below (T41.setTop (mkF m 11 #[.val (.int xc)] [(.int xc), (.ref va)])) t → Steps p.tables e below (s₁.setTop (entryFrame m #[(.int xc)] 1)) t := by
      intro t k
      refine A40 _ ?_
      refine st41 _ ?_
      show Steps p.tables e below (T41.setTop (mkF m 10 #[.val (.int xc)] [(.ref va)])) _
      refine XS.iloadN X41.here hx rfl (hb hby dn_10) rfl ?_
      show Steps p.tables e below (T41.setTop (mkF m 11 #[.val (.int xc)] [(.int xc), (.ref va)])) _
      exact k
    have hin := inb_of TB.2.1 ⟨hc0, hlow⟩
    have A43 : ∀ t, Steps p.tables e below (T41.setTop (mkF m 14 #[.val (.int xc)] [(.int ((atv cl xc) &&& (1 : Int32)))])) t → Steps p.tables e below (s₁.setTop (entryFrame m #[(.int xc)] 1)) t := by
      intro t k
      refine A42 _ ?_
      refine X41.baloadBytes hx (j := xc) (v := (.int (atv cl xc))) (by rw [e41]; exact TB.1.1) (State.isArrayOf_alike hZ.alike TB.1.2.1) TB.1.2.2 hin (TB.2.2.2 xc hin) (g := (mkF m 11 #[.val (.int xc)] [(.int xc), (.ref va)])) rfl rfl (hb hby dn_11) _ ?_
      show Steps p.tables e below (T41.setTop (mkF m 12 #[.val (.int xc)] [(.int (atv cl xc))])) _
      refine XS.iconst X41.here hx rfl (hb hby dn_12) ?_
      show Steps p.tables e below (T41.setTop (mkF m 13 #[.val (.int xc)] [(.int (1 : Int32)), (.int (atv cl xc))])) _
      refine XS.iand X41.here hx rfl (hb hby dn_13) rfl ?_
      show Steps p.tables e below (T41.setTop (mkF m 14 #[.val (.int xc)] [(.int ((atv cl xc) &&& (1 : Int32)))])) _
      exact k
    obtain ⟨u45, hu45⟩ : ∃ u : Int32, u = (if ((atv cl xc) &&& (1 : Int32)) = (0 : Int32) then (0 : Int32) else (1 : Int32)) := ⟨_, rfl⟩
    have A46 : ∀ t, Steps p.tables e below (T41.setTop (mkF m 22 #[.val (.int xc)] [(.int u45)])) t → Steps p.tables e below (s₁.setTop (entryFrame m #[(.int xc)] 1)) t := by
      intro t k
      refine A43 _ ?_
      by_cases hj44 : ((atv cl xc) &&& (1 : Int32)) = (0 : Int32)
      · refine XS.ifYes X41.here hx rfl (pc0 := 14) (pc' := 21) rfl (hb hby dn_14) rfl ((if0 _ _).trans (teq hj44).1) (by decide) (by decide) ?_
        show Steps p.tables e below (T41.setTop (mkF m 21 #[.val (.int xc)] [])) _
        refine XS.iconst X41.here hx rfl (hb hby dn_21) ?_
        show Steps p.tables e below (T41.setTop (mkF m 22 #[.val (.int xc)] [(.int (0 : Int32))])) _
        have qu45 : u45 = (0 : Int32) := by first | (rw [hu45]; simp only [if_pos hj44]; done) | (rw [hu45]; simp [hj44]; done)
        rw [qu45] at k
        exact k
      · refine XS.ifNo X41.here hx rfl (hb hby dn_14) rfl ((if0 _ _).trans (feq hj44).1) ?_
        show Steps p.tables e below (T41.setTop (mkF m 17 #[.val (.int xc)] [])) _
        refine XS.iconst X41.here hx rfl (hb hby dn_17) ?_
        show Steps p.tables e below (T41.setTop (mkF m 18 #[.val (.int xc)] [(.int (1 : Int32))])) _
        refine XS.goto X41.here hx rfl (pc0 := 18) (pc' := 22) rfl (hb hby dn_18) (by decide) (by decide) ?_
        show Steps p.tables e below (T41.setTop (mkF m 22 #[.val (.int xc)] [(.int (1 : Int32))])) _
        have qu45 : u45 = (1 : Int32) := by first | (rw [hu45]; simp only [if_neg hj44]; done) | (rw [hu45]; simp [hj44]; done)
        rw [qu45] at k
        exact k
    have hb1 : u45 = 0 ∨ u45 = 1 := by rw [hu45]; split <;> simp
    obtain ⟨fs, hr, hrun, hended, hW, hsame⟩ := X41.leave (v := some (.int u45)) (fun h => by rw [Bd.returns] at h; cases h)
    refine ⟨_, _, A46 _ ?_, hrun, hended, _, _, rfl, ?_, ⟨_, rfl⟩, hW, hsame.mono (by decide) (by decide)⟩
    · exact own_retN X41 hx (t := .boolean) Bd.returns (by simp) (own_nb (hb1)) (hb hby dn_22) hr
    · show own_Qns Z xc (atv cl xc) h0 n0 _ T41.heap _
      rw [e41]
      exact ⟨by rw [hu45]; simp [own_ns, hlow], N0, rfl⟩
  · have A47 : ∀ t, Steps p.tables e below (s₁.setTop (mkF m 23 #[.val (.int xc)] [])) t → Steps p.tables e below (s₁.setTop (entryFrame m #[(.int xc)] 1)) t := by
      intro t k
      refine A39 _ ?_
      refine XS.icmpYes X0.here hx rfl (pc0 := 4) (pc' := 23) rfl (hb hby dn_4) rfl (flt hlow).2.1 (by decide) (by decide) ?_
      show Steps p.tables e below (s₁.setTop (mkF m 23 #[.val (.int xc)] [])) _
      exact k
    have J48_176 : ∀ t, Steps p.tables e below (s₁.setTop (mkF m 177 #[.val (.int xc)] [(.int (own_n_176 xc))])) t → Steps p.tables e below (s₁.setTop (mkF m 176 #[.val (.int xc)] [])) t := by
      intro t k
      unfold own_n_176 at k
      refine XS.iconst X0.here hx rfl (hb hby dn_176) ?_
      show Steps p.tables e below (s₁.setTop (mkF m 177 #[.val (.int xc)] [(.int (0 : Int32))])) _
      exact k
    have J48_172 : ∀ t, Steps p.tables e below (s₁.setTop (mkF m 177 #[.val (.int xc)] [(.int (own_n_172 xc))])) t → Steps p.tables e below (s₁.setTop (mkF m 172 #[.val (.int xc)] [])) t := by
      intro t k
      unfold own_n_172 at k
      refine XS.iconst X0.here hx rfl (hb hby dn_172) ?_
      show Steps p.tables e below (s₁.setTop (mkF m 173 #[.val (.int xc)] [(.int (1 : Int32))])) _
      refine XS.goto X0.here hx rfl (pc0 := 173) (pc' := 177) rfl (hb hby dn_173) (by decide) (by decide) ?_
      show Steps p.tables e below (s₁.setTop (mkF m 177 #[.val (.int xc)] [(.int (1 : Int32))])) _
      exact k
    have J48_160 : ∀ t, Steps p.tables e below (s₁.setTop (mkF m 177 #[.val (.int xc)] [(.int (own_n_160 xc))])) t → Steps p.tables e below (s₁.setTop (mkF m 160 #[.val (.int xc)] [])) t := by
      intro t k
      unfold own_n_160 at k
      refine XS.iloadN X0.here hx rfl (hb hby dn_160) rfl ?_
      show Steps p.tables e below (s₁.setTop (mkF m 161 #[.val (.int xc)] [(.int xc)])) _
      refine X0.ldcInt hx hown (mvT hZ (hw _ (List.mem_of_getElem? (i := 20) rfl))) (g := (mkF m 161 #[.val (.int xc)] [(.int xc)])) rfl (hb hby dn_161) _ ?_
      show Steps p.tables e below (s₁.setTop (mkF m 163 #[.val (.int xc)] [(.int (65008 : Int32)), (.int xc)])) _
      by_cases hk49 : xc < (65008 : Int32)
      · rw [if_pos hk49] at k
        refine XS.icmpYes X0.here hx rfl (pc0 := 163) (pc' := 176) rfl (hb hby dn_163) rfl (tlt hk49).1 (by decide) (by decide) ?_
        show Steps p.tables e below (s₁.setTop (mkF m 176 #[.val (.int xc)] [])) _
        exact J48_176 _ k
      · rw [if_neg hk49] at k
        refine XS.icmpNo X0.here hx rfl (hb hby dn_163) rfl (flt hk49).1 ?_
        show Steps p.tables e below (s₁.setTop (mkF m 166 #[.val (.int xc)] [])) _
        refine XS.iloadN X0.here hx rfl (hb hby dn_166) rfl ?_
        show Steps p.tables e below (s₁.setTop (mkF m 167 #[.val (.int xc)] [(.int xc)])) _
        refine X0.ldcInt hx hown (mvT hZ (hw _ (List.mem_of_getElem? (i := 21) rfl))) (g := (mkF m 167 #[.val (.int xc)] [(.int xc)])) rfl (hb hby dn_167) _ ?_
        show Steps p.tables e below (s₁.setTop (mkF m 169 #[.val (.int xc)] [(.int (65533 : Int32)), (.int xc)])) _
        by_cases hk50 : (65533 : Int32) < xc
        · rw [if_pos hk50] at k
          refine XS.icmpYes X0.here hx rfl (pc0 := 169) (pc' := 176) rfl (hb hby dn_169) rfl (tlt hk50).2.2.1 (by decide) (by decide) ?_
          show Steps p.tables e below (s₁.setTop (mkF m 176 #[.val (.int xc)] [])) _
          exact J48_176 _ k
        · rw [if_neg hk50] at k
          refine XS.icmpNo X0.here hx rfl (hb hby dn_169) rfl (flt hk50).2.2.1 ?_
          show Steps p.tables e below (s₁.setTop (mkF m 172 #[.val (.int xc)] [])) _
          exact J48_172 _ k
    have J48_148 : ∀ t, Steps p.tables e below (s₁.setTop (mkF m 177 #[.val (.int xc)] [(.int (own_n_148 xc))])) t → Steps p.tables e below (s₁.setTop (mkF m 148 #[.val (.int xc)] [])) t := by
      intro t k
      unfold own_n_148 at k
      refine XS.iloadN X0.here hx rfl (hb hby dn_148) rfl ?_
      show Steps p.tables e below (s₁.setTop (mkF m 149 #[.val (.int xc)] [(.int xc)])) _
      refine X0.ldcInt hx hown (mvT hZ (hw _ (List.mem_of_getElem? (i := 18) rfl))) (g := (mkF m 149 #[.val (.int xc)] [(.int xc)])) rfl (hb hby dn_149) _ ?_
      show Steps p.tables e below (s₁.setTop (mkF m 151 #[.val (.int xc)] [(.int (63744 : Int32)), (.int xc)])) _
      by_cases hk51 : xc < (63744 : Int32)
      · rw [if_pos hk51] at k
        refine XS.icmpYes X0.here hx rfl (pc0 := 151) (pc' := 160) rfl (hb hby dn_151) rfl (tlt hk51).1 (by decide) (by decide) ?_
        show Steps p.tables e below (s₁.setTop (mkF m 160 #[.val (.int xc)] [])) _
        exact J48_160 _ k
      · rw [if_neg hk51] at k
        refine XS.icmpNo X0.here hx rfl (hb hby dn_151) rfl (flt hk51).1 ?_
        show Steps p.tables e below (s₁.setTop (mkF m 154 #[.val (.int xc)] [])) _
        refine XS.iloadN X0.here hx rfl (hb hby dn_154) rfl ?_
        show Steps p.tables e below (s₁.setTop (mkF m 155 #[.val (.int xc)] [(.int xc)])) _
        refine X0.ldcInt hx hown (mvT hZ (hw _ (List.mem_of_getElem? (i := 19) rfl))) (g := (mkF m 155 #[.val (.int xc)] [(.int xc)])) rfl (hb hby dn_155) _ ?_
        show Steps p.tables e below (s₁.setTop (mkF m 157 #[.val (.int xc)] [(.int (64975 : Int32)), (.int xc)])) _
        by_cases hk52 : (64975 : Int32) < xc
        · rw [if_pos hk52] at k
          refine XS.icmpNo X0.here hx rfl (hb hby dn_157) rfl (tlt hk52).2.2.2 ?_
          show Steps p.tables e below (s₁.setTop (mkF m 160 #[.val (.int xc)] [])) _
          exact J48_160 _ k
        · rw [if_neg hk52] at k
          refine XS.icmpYes X0.here hx rfl (pc0 := 157) (pc' := 172) rfl (hb hby dn_157) rfl (flt hk52).2.2.2 (by decide) (by decide) ?_
          show Steps p.tables e below (s₁.setTop (mkF m 172 #[.val (.int xc)] [])) _
          exact J48_172 _ k
    have J48_135 : ∀ t, Steps p.tables e below (s₁.setTop (mkF m 177 #[.val (.int xc)] [(.int (own_n_135 xc))])) t → Steps p.tables e below (s₁.setTop (mkF m 135 #[.val (.int xc)] [])) t := by
      intro t k
      unfold own_n_135 at k
      refine XS.iloadN X0.here hx rfl (hb hby dn_135) rfl ?_
      show Steps p.tables e below (s₁.setTop (mkF m 136 #[.val (.int xc)] [(.int xc)])) _
      refine XS.sipush X0.here hx rfl (hb hby dn_136) ?_
      show Steps p.tables e below (s₁.setTop (mkF m 139 #[.val (.int xc)] [(.int (12289 : Int32)), (.int xc)])) _
      by_cases hk53 : xc < (12289 : Int32)
      · rw [if_pos hk53] at k
        refine XS.icmpYes X0.here hx rfl (pc0 := 139) (pc' := 148) rfl (hb hby dn_139) rfl (tlt hk53).1 (by decide) (by decide) ?_
        show Steps p.tables e below (s₁.setTop (mkF m 148 #[.val (.int xc)] [])) _
        exact J48_148 _ k
      · rw [if_neg hk53] at k
        refine XS.icmpNo X0.here hx rfl (hb hby dn_139) rfl (flt hk53).1 ?_
        show Steps p.tables e below (s₁.setTop (mkF m 142 #[.val (.int xc)] [])) _
        refine XS.iloadN X0.here hx rfl (hb hby dn_142) rfl ?_
        show Steps p.tables e below (s₁.setTop (mkF m 143 #[.val (.int xc)] [(.int xc)])) _
        refine X0.ldcInt hx hown (mvT hZ (hw _ (List.mem_of_getElem? (i := 11) rfl))) (g := (mkF m 143 #[.val (.int xc)] [(.int xc)])) rfl (hb hby dn_143) _ ?_
        show Steps p.tables e below (s₁.setTop (mkF m 145 #[.val (.int xc)] [(.int (55295 : Int32)), (.int xc)])) _
        by_cases hk54 : (55295 : Int32) < xc
        · rw [if_pos hk54] at k
          refine XS.icmpNo X0.here hx rfl (hb hby dn_145) rfl (tlt hk54).2.2.2 ?_
          show Steps p.tables e below (s₁.setTop (mkF m 148 #[.val (.int xc)] [])) _
          exact J48_148 _ k
        · rw [if_neg hk54] at k
          refine XS.icmpYes X0.here hx rfl (pc0 := 145) (pc' := 172) rfl (hb hby dn_145) rfl (flt hk54).2.2.2 (by decide) (by decide) ?_
          show Steps p.tables e below (s₁.setTop (mkF m 172 #[.val (.int xc)] [])) _
          exact J48_172 _ k
    have J48_121 : ∀ t, Steps p.tables e below (s₁.setTop (mkF m 177 #[.val (.int xc)] [(.int (own_n_121 xc))])) t → Steps p.tables e below (s₁.setTop (mkF m 121 #[.val (.int xc)] [])) t := by
      intro t k
      unfold own_n_121 at k
      refine XS.iloadN X0.here hx rfl (hb hby dn_121) rfl ?_
      show Steps p.tables e below (s₁.setTop (mkF m 122 #[.val (.int xc)] [(.int xc)])) _
      refine XS.sipush X0.here hx rfl (hb hby dn_122) ?_
      show Steps p.tables e below (s₁.setTop (mkF m 125 #[.val (.int xc)] [(.int (11264 : Int32)), (.int xc)])) _
      by_cases hk55 : xc < (11264 : Int32)
      · rw [if_pos hk55] at k
        refine XS.icmpYes X0.here hx rfl (pc0 := 125) (pc' := 135) rfl (hb hby dn_125) rfl (tlt hk55).1 (by decide) (by decide) ?_
        show Steps p.tables e below (s₁.setTop (mkF m 135 #[.val (.int xc)] [])) _
        exact J48_135 _ k
      · rw [if_neg hk55] at k
        refine XS.icmpNo X0.here hx rfl (hb hby dn_125) rfl (flt hk55).1 ?_
        show Steps p.tables e below (s₁.setTop (mkF m 128 #[.val (.int xc)] [])) _
        refine XS.iloadN X0.here hx rfl (hb hby dn_128) rfl ?_
        show Steps p.tables e below (s₁.setTop (mkF m 129 #[.val (.int xc)] [(.int xc)])) _
        refine XS.sipush X0.here hx rfl (hb hby dn_129) ?_
        show Steps p.tables e below (s₁.setTop (mkF m 132 #[.val (.int xc)] [(.int (12271 : Int32)), (.int xc)])) _
        by_cases hk56 : (12271 : Int32) < xc
        · rw [if_pos hk56] at k
          refine XS.icmpNo X0.here hx rfl (hb hby dn_132) rfl (tlt hk56).2.2.2 ?_
          show Steps p.tables e below (s₁.setTop (mkF m 135 #[.val (.int xc)] [])) _
          exact J48_135 _ k
        · rw [if_neg hk56] at k
          refine XS.icmpYes X0.here hx rfl (pc0 := 132) (pc' := 172) rfl (hb hby dn_132) rfl (flt hk56).2.2.2 (by decide) (by decide) ?_
          show Steps p.tables e below (s₁.setTop (mkF m 172 #[.val (.int xc)] [])) _
          exact J48_172 _ k
    have J48_93 : ∀ t, Steps p.tables e below (s₁.setTop (mkF m 177 #[.val (.int xc)] [(.int (own_n_93 xc))])) t → Steps p.tables e below (s₁.setTop (mkF m 93 #[.val (.int xc)] [])) t := by
      intro t k
      unfold own_n_93 at k
      refine XS.iloadN X0.here hx rfl (hb hby dn_93) rfl ?_
      show Steps p.tables e below (s₁.setTop (mkF m 94 #[.val (.int xc)] [(.int xc)])) _
      refine XS.sipush X0.here hx rfl (hb hby dn_94) ?_
      show Steps p.tables e below (s₁.setTop (mkF m 97 #[.val (.int xc)] [(.int (8204 : Int32)), (.int xc)])) _
      by_cases hk57 : xc = (8204 : Int32)
      · rw [if_pos hk57] at k
        refine XS.icmpYes X0.here hx rfl (pc0 := 97) (pc' := 172) rfl (hb hby dn_97) rfl (teq hk57).1 (by decide) (by decide) ?_
        show Steps p.tables e below (s₁.setTop (mkF m 172 #[.val (.int xc)] [])) _
        exact J48_172 _ k
      · rw [if_neg hk57] at k
        refine XS.icmpNo X0.here hx rfl (hb hby dn_97) rfl (feq hk57).1 ?_
        show Steps p.tables e below (s₁.setTop (mkF m 100 #[.val (.int xc)] [])) _
        refine XS.iloadN X0.here hx rfl (hb hby dn_100) rfl ?_
        show Steps p.tables e below (s₁.setTop (mkF m 101 #[.val (.int xc)] [(.int xc)])) _
        refine XS.sipush X0.here hx rfl (hb hby dn_101) ?_
        show Steps p.tables e below (s₁.setTop (mkF m 104 #[.val (.int xc)] [(.int (8205 : Int32)), (.int xc)])) _
        by_cases hk58 : xc = (8205 : Int32)
        · rw [if_pos hk58] at k
          refine XS.icmpYes X0.here hx rfl (pc0 := 104) (pc' := 172) rfl (hb hby dn_104) rfl (teq hk58).1 (by decide) (by decide) ?_
          show Steps p.tables e below (s₁.setTop (mkF m 172 #[.val (.int xc)] [])) _
          exact J48_172 _ k
        · rw [if_neg hk58] at k
          refine XS.icmpNo X0.here hx rfl (hb hby dn_104) rfl (feq hk58).1 ?_
          show Steps p.tables e below (s₁.setTop (mkF m 107 #[.val (.int xc)] [])) _
          refine XS.iloadN X0.here hx rfl (hb hby dn_107) rfl ?_
          show Steps p.tables e below (s₁.setTop (mkF m 108 #[.val (.int xc)] [(.int xc)])) _
          refine XS.sipush X0.here hx rfl (hb hby dn_108) ?_
          show Steps p.tables e below (s₁.setTop (mkF m 111 #[.val (.int xc)] [(.int (8304 : Int32)), (.int xc)])) _
          by_cases hk59 : xc < (8304 : Int32)
          · rw [if_pos hk59] at k
            refine XS.icmpYes X0.here hx rfl (pc0 := 111) (pc' := 121) rfl (hb hby dn_111) rfl (tlt hk59).1 (by decide) (by decide) ?_
            show Steps p.tables e below (s₁.setTop (mkF m 121 #[.val (.int xc)] [])) _
            exact J48_121 _ k
          · rw [if_neg hk59] at k
            refine XS.icmpNo X0.here hx rfl (hb hby dn_111) rfl (flt hk59).1 ?_
            show Steps p.tables e below (s₁.setTop (mkF m 114 #[.val (.int xc)] [])) _
            refine XS.iloadN X0.here hx rfl (hb hby dn_114) rfl ?_
            show Steps p.tables e below (s₁.setTop (mkF m 115 #[.val (.int xc)] [(.int xc)])) _
            refine XS.sipush X0.here hx rfl (hb hby dn_115) ?_
            show Steps p.tables e below (s₁.setTop (mkF m 118 #[.val (.int xc)] [(.int (8591 : Int32)), (.int xc)])) _
            by_cases hk60 : (8591 : Int32) < xc
            · rw [if_pos hk60] at k
              refine XS.icmpNo X0.here hx rfl (hb hby dn_118) rfl (tlt hk60).2.2.2 ?_
              show Steps p.tables e below (s₁.setTop (mkF m 121 #[.val (.int xc)] [])) _
              exact J48_121 _ k
            · rw [if_neg hk60] at k
              refine XS.icmpYes X0.here hx rfl (pc0 := 118) (pc' := 172) rfl (hb hby dn_118) rfl (flt hk60).2.2.2 (by decide) (by decide) ?_
              show Steps p.tables e below (s₁.setTop (mkF m 172 #[.val (.int xc)] [])) _
              exact J48_172 _ k
    have J48_79 : ∀ t, Steps p.tables e below (s₁.setTop (mkF m 177 #[.val (.int xc)] [(.int (own_n_79 xc))])) t → Steps p.tables e below (s₁.setTop (mkF m 79 #[.val (.int xc)] [])) t := by
      intro t k
      unfold own_n_79 at k
      refine XS.iloadN X0.here hx rfl (hb hby dn_79) rfl ?_
      show Steps p.tables e below (s₁.setTop (mkF m 80 #[.val (.int xc)] [(.int xc)])) _
      refine XS.sipush X0.here hx rfl (hb hby dn_80) ?_
      show Steps p.tables e below (s₁.setTop (mkF m 83 #[.val (.int xc)] [(.int (895 : Int32)), (.int xc)])) _
      by_cases hk61 : xc < (895 : Int32)
      · rw [if_pos hk61] at k
        refine XS.icmpYes X0.here hx rfl (pc0 := 83) (pc' := 93) rfl (hb hby dn_83) rfl (tlt hk61).1 (by decide) (by decide) ?_
        show Steps p.tables e below (s₁.setTop (mkF m 93 #[.val (.int xc)] [])) _
        exact J48_93 _ k
      · rw [if_neg hk61] at k
        refine XS.icmpNo X0.here hx rfl (hb hby dn_83) rfl (flt hk61).1 ?_
        show Steps p.tables e below (s₁.setTop (mkF m 86 #[.val (.int xc)] [])) _
        refine XS.iloadN X0.here hx rfl (hb hby dn_86) rfl ?_
        show Steps p.tables e below (s₁.setTop (mkF m 87 #[.val (.int xc)] [(.int xc)])) _
        refine XS.sipush X0.here hx rfl (hb hby dn_87) ?_
        show Steps p.tables e below (s₁.setTop (mkF m 90 #[.val (.int xc)] [(.int (8191 : Int32)), (.int xc)])) _
        by_cases hk62 : (8191 : Int32) < xc
        · rw [if_pos hk62] at k
          refine XS.icmpNo X0.here hx rfl (hb hby dn_90) rfl (tlt hk62).2.2.2 ?_
          show Steps p.tables e below (s₁.setTop (mkF m 93 #[.val (.int xc)] [])) _
          exact J48_93 _ k
        · rw [if_neg hk62] at k
          refine XS.icmpYes X0.here hx rfl (pc0 := 90) (pc' := 172) rfl (hb hby dn_90) rfl (flt hk62).2.2.2 (by decide) (by decide) ?_
          show Steps p.tables e below (s₁.setTop (mkF m 172 #[.val (.int xc)] [])) _
          exact J48_172 _ k
    have J48_65 : ∀ t, Steps p.tables e below (s₁.setTop (mkF m 177 #[.val (.int xc)] [(.int (own_n_65 xc))])) t → Steps p.tables e below (s₁.setTop (mkF m 65 #[.val (.int xc)] [])) t := by
      intro t k
      unfold own_n_65 at k
      refine XS.iloadN X0.here hx rfl (hb hby dn_65) rfl ?_
      show Steps p.tables e below (s₁.setTop (mkF m 66 #[.val (.int xc)] [(.int xc)])) _
      refine XS.sipush X0.here hx rfl (hb hby dn_66) ?_
      show Steps p.tables e below (s₁.setTop (mkF m 69 #[.val (.int xc)] [(.int (880 : Int32)), (.int xc)])) _
      by_cases hk63 : xc < (880 : Int32)
      · rw [if_pos hk63] at k
        refine XS.icmpYes X0.here hx rfl (pc0 := 69) (pc' := 79) rfl (hb hby dn_69) rfl (tlt hk63).1 (by decide) (by decide) ?_
        show Steps p.tables e below (s₁.setTop (mkF m 79 #[.val (.int xc)] [])) _
        exact J48_79 _ k
      · rw [if_neg hk63] at k
        refine XS.icmpNo X0.here hx rfl (hb hby dn_69) rfl (flt hk63).1 ?_
        show Steps p.tables e below (s₁.setTop (mkF m 72 #[.val (.int xc)] [])) _
        refine XS.iloadN X0.here hx rfl (hb hby dn_72) rfl ?_
        show Steps p.tables e below (s₁.setTop (mkF m 73 #[.val (.int xc)] [(.int xc)])) _
        refine XS.sipush X0.here hx rfl (hb hby dn_73) ?_
        show Steps p.tables e below (s₁.setTop (mkF m 76 #[.val (.int xc)] [(.int (893 : Int32)), (.int xc)])) _
        by_cases hk64 : (893 : Int32) < xc
        · rw [if_pos hk64] at k
          refine XS.icmpNo X0.here hx rfl (hb hby dn_76) rfl (tlt hk64).2.2.2 ?_
          show Steps p.tables e below (s₁.setTop (mkF m 79 #[.val (.int xc)] [])) _
          exact J48_79 _ k
        · rw [if_neg hk64] at k
          refine XS.icmpYes X0.here hx rfl (pc0 := 76) (pc' := 172) rfl (hb hby dn_76) rfl (flt hk64).2.2.2 (by decide) (by decide) ?_
          show Steps p.tables e below (s₁.setTop (mkF m 172 #[.val (.int xc)] [])) _
          exact J48_172 _ k
    have J48_51 : ∀ t, Steps p.tables e below (s₁.setTop (mkF m 177 #[.val (.int xc)] [(.int (own_n_51 xc))])) t → Steps p.tables e below (s₁.setTop (mkF m 51 #[.val (.int xc)] [])) t := by
      intro t k
      unfold own_n_51 at k
      refine XS.iloadN X0.here hx rfl (hb hby dn_51) rfl ?_
      show Steps p.tables e below (s₁.setTop (mkF m 52 #[.val (.int xc)] [(.int xc)])) _
      refine XS.sipush X0.here hx rfl (hb hby dn_52) ?_
      show Steps p.tables e below (s₁.setTop (mkF m 55 #[.val (.int xc)] [(.int (248 : Int32)), (.int xc)])) _
      by_cases hk65 : xc < (248 : Int32)
      · rw [if_pos hk65] at k
        refine XS.icmpYes X0.here hx rfl (pc0 := 55) (pc' := 65) rfl (hb hby dn_55) rfl (tlt hk65).1 (by decide) (by decide) ?_
        show Steps p.tables e below (s₁.setTop (mkF m 65 #[.val (.int xc)] [])) _
        exact J48_65 _ k
      · rw [if_neg hk65] at k
        refine XS.icmpNo X0.here hx rfl (hb hby dn_55) rfl (flt hk65).1 ?_
        show Steps p.tables e below (s₁.setTop (mkF m 58 #[.val (.int xc)] [])) _
        refine XS.iloadN X0.here hx rfl (hb hby dn_58) rfl ?_
        show Steps p.tables e below (s₁.setTop (mkF m 59 #[.val (.int xc)] [(.int xc)])) _
        refine XS.sipush X0.here hx rfl (hb hby dn_59) ?_
        show Steps p.tables e below (s₁.setTop (mkF m 62 #[.val (.int xc)] [(.int (767 : Int32)), (.int xc)])) _
        by_cases hk66 : (767 : Int32) < xc
        · rw [if_pos hk66] at k
          refine XS.icmpNo X0.here hx rfl (hb hby dn_62) rfl (tlt hk66).2.2.2 ?_
          show Steps p.tables e below (s₁.setTop (mkF m 65 #[.val (.int xc)] [])) _
          exact J48_65 _ k
        · rw [if_neg hk66] at k
          refine XS.icmpYes X0.here hx rfl (pc0 := 62) (pc' := 172) rfl (hb hby dn_62) rfl (flt hk66).2.2.2 (by decide) (by decide) ?_
          show Steps p.tables e below (s₁.setTop (mkF m 172 #[.val (.int xc)] [])) _
          exact J48_172 _ k
    have J48_37 : ∀ t, Steps p.tables e below (s₁.setTop (mkF m 177 #[.val (.int xc)] [(.int (own_n_37 xc))])) t → Steps p.tables e below (s₁.setTop (mkF m 37 #[.val (.int xc)] [])) t := by
      intro t k
      unfold own_n_37 at k
      refine XS.iloadN X0.here hx rfl (hb hby dn_37) rfl ?_
      show Steps p.tables e below (s₁.setTop (mkF m 38 #[.val (.int xc)] [(.int xc)])) _
      refine XS.sipush X0.here hx rfl (hb hby dn_38) ?_
      show Steps p.tables e below (s₁.setTop (mkF m 41 #[.val (.int xc)] [(.int (216 : Int32)), (.int xc)])) _
      by_cases hk67 : xc < (216 : Int32)
      · rw [if_pos hk67] at k
        refine XS.icmpYes X0.here hx rfl (pc0 := 41) (pc' := 51) rfl (hb hby dn_41) rfl (tlt hk67).1 (by decide) (by decide) ?_
        show Steps p.tables e below (s₁.setTop (mkF m 51 #[.val (.int xc)] [])) _
        exact J48_51 _ k
      · rw [if_neg hk67] at k
        refine XS.icmpNo X0.here hx rfl (hb hby dn_41) rfl (flt hk67).1 ?_
        show Steps p.tables e below (s₁.setTop (mkF m 44 #[.val (.int xc)] [])) _
        refine XS.iloadN X0.here hx rfl (hb hby dn_44) rfl ?_
        show Steps p.tables e below (s₁.setTop (mkF m 45 #[.val (.int xc)] [(.int xc)])) _
        refine XS.sipush X0.here hx rfl (hb hby dn_45) ?_
        show Steps p.tables e below (s₁.setTop (mkF m 48 #[.val (.int xc)] [(.int (246 : Int32)), (.int xc)])) _
        by_cases hk68 : (246 : Int32) < xc
        · rw [if_pos hk68] at k
          refine XS.icmpNo X0.here hx rfl (hb hby dn_48) rfl (tlt hk68).2.2.2 ?_
          show Steps p.tables e below (s₁.setTop (mkF m 51 #[.val (.int xc)] [])) _
          exact J48_51 _ k
        · rw [if_neg hk68] at k
          refine XS.icmpYes X0.here hx rfl (pc0 := 48) (pc' := 172) rfl (hb hby dn_48) rfl (flt hk68).2.2.2 (by decide) (by decide) ?_
          show Steps p.tables e below (s₁.setTop (mkF m 172 #[.val (.int xc)] [])) _
          exact J48_172 _ k
    have J48_23 : ∀ t, Steps p.tables e below (s₁.setTop (mkF m 177 #[.val (.int xc)] [(.int (own_n_23 xc))])) t → Steps p.tables e below (s₁.setTop (mkF m 23 #[.val (.int xc)] [])) t := by
      intro t k
      unfold own_n_23 at k
      refine XS.iloadN X0.here hx rfl (hb hby dn_23) rfl ?_
      show Steps p.tables e below (s₁.setTop (mkF m 24 #[.val (.int xc)] [(.int xc)])) _
      refine XS.sipush X0.here hx rfl (hb hby dn_24) ?_
      show Steps p.tables e below (s₁.setTop (mkF m 27 #[.val (.int xc)] [(.int (192 : Int32)), (.int xc)])) _
      by_cases hk69 : xc < (192 : Int32)
      · rw [if_pos hk69] at k
        refine XS.icmpYes X0.here hx rfl (pc0 := 27) (pc' := 37) rfl (hb hby dn_27) rfl (tlt hk69).1 (by decide) (by decide) ?_
        show Steps p.tables e below (s₁.setTop (mkF m 37 #[.val (.int xc)] [])) _
        exact J48_37 _ k
      · rw [if_neg hk69] at k
        refine XS.icmpNo X0.here hx rfl (hb hby dn_27) rfl (flt hk69).1 ?_
        show Steps p.tables e below (s₁.setTop (mkF m 30 #[.val (.int xc)] [])) _
        refine XS.iloadN X0.here hx rfl (hb hby dn_30) rfl ?_
        show Steps p.tables e below (s₁.setTop (mkF m 31 #[.val (.int xc)] [(.int xc)])) _
        refine XS.sipush X0.here hx rfl (hb hby dn_31) ?_
        show Steps p.tables e below (s₁.setTop (mkF m 34 #[.val (.int xc)] [(.int (214 : Int32)), (.int xc)])) _
        by_cases hk70 : (214 : Int32) < xc
        · rw [if_pos hk70] at k
          refine XS.icmpNo X0.here hx rfl (hb hby dn_34) rfl (tlt hk70).2.2.2 ?_
          show Steps p.tables e below (s₁.setTop (mkF m 37 #[.val (.int xc)] [])) _
          exact J48_37 _ k
        · rw [if_neg hk70] at k
          refine XS.icmpYes X0.here hx rfl (pc0 := 34) (pc' := 172) rfl (hb hby dn_34) rfl (flt hk70).2.2.2 (by decide) (by decide) ?_
          show Steps p.tables e below (s₁.setTop (mkF m 172 #[.val (.int xc)] [])) _
          exact J48_172 _ k
    have A71 : ∀ t, Steps p.tables e below (s₁.setTop (mkF m 177 #[.val (.int xc)] [(.int (own_n_23 xc))])) t → Steps p.tables e below (s₁.setTop (entryFrame m #[(.int xc)] 1)) t := fun t k => A47 _ (J48_23 _ k)
    obtain ⟨fs, hr, hrun, hended, hW, hsame⟩ := X0.leave (v := some (.int (own_n_23 xc))) (fun h => by rw [Bd.returns] at h; cases h)
    refine ⟨_, _, A71 _ ?_, hrun, hended, _, _, rfl, ?_, ⟨_, rfl⟩, hW, hsame.mono (by decide) (by decide)⟩
    · exact own_retN X0 hx (t := .boolean) Bd.returns (by simp) (own_nb (own_n_01 xc)) (hb hby dn_177) hr
    · show own_Qns Z xc (atv cl xc) h0 n0 _ s₁.heap _
      rw [e0]
      exact ⟨by simp [own_ns, hlow], N0, rfl⟩
def own_Q0 (Z : State) (xk : Int32) (h0 : Heap) (n0 : Nat) (v : Option Value) (h : Heap) (L : List Loc) : Prop := v = some (.int 1) ∧ Fr n0 L
theorem own_law_ef (m : MethodId) (x0 : Int32) : entryFrame m #[(.int x0)] maxLocals = mkF m 0 #[.val (.int x0), .unset] [] := by first | (simp [entryFrame, mkF, argsToLocals, Value.category, maxLocals]; done) | rfl
set_option maxRecDepth 65536 in
set_option maxHeartbeats 40000000 in
theorem own_law (l : Launch) (Z : State) (a0 : Array Value) (hw : ∀ d ∈ tables_1, d.before a0 Z = true) (ws : List Jvm.Cond) (xk : Int32) (va : Addr) (cl : Cell) (h0 : Heap) (n0 : Nat) (Z0 : n0 ≤ h0.size) (S0 : Sta Z h0 "mortisebind/runtime/XmlCharacters" "ASCII" "[B" (.ref va)) (TB : Tab Z h0 va cl .byte 128) (hasc : ∀ xc : Int32, ¬ xc < 0 → xc < 128 → (atv cl xc &&& 1 = 0 ↔ ¬ (xc.toInt = 58 ∨ (65 ≤ xc.toInt ∧ xc.toInt ≤ 90) ∨ xc.toInt = 95 ∨ (97 ≤ xc.toInt ∧ xc.toInt ≤ 122)))) :
    MetFree l x (head1 (Jvm.Cond.code x code maxLocals ret :: ws) room_1) (fun a U => a = #[(.int xk)] ∧ Z.Warmed39 U.vm ∧ U.heap = h0) (fun _ _ _ _ _ => True) (fun _ U o U' => ∃ v L, o = .returned v ∧ own_Q0 Z xk h0 n0 v U'.heap L ∧ FrameEnd U o U' L room_1.cells room_1.slots) := by
  refine MetFree.of_bodySF (plainFor_of_name own_pn0) hisR ?_
  intro p e s m args below meth c s₁ Bd hml0 hP hK
  obtain ⟨rfl, hZ, hh⟩ := hP
  have hx := Bd.exec
  have hby := Bd.bytes
  have hml : c.maxLocals = 2 := hml0
  have hown : s.vm.findClass "mortisebind/runtime/XmlCharactersIsNameStartPinLaw" = some m.cls := findClass_of_methodNamed Bd.named
  have hnm := (name_of_methodNamed Bd.named Bd.method).1
  have X0 : Stand p l e room_1 s m #[(.int xk)] below meth c s₁ [] 0 0 := Stand.of_body Bd
  have e0 : s₁.heap = h0 := by rw [← hh, Bd.state]; rfl
  have N0 := Fr.nil n0
  have A0 : ∀ t, Steps p.tables e below (s₁.setTop (mkF m 0 #[.val (.int xk), .unset] [])) t → Steps p.tables e below (s₁.setTop (entryFrame m #[(.int xk)] maxLocals)) t := fun t k => castTop (own_law_ef m xk) k
  have A72 : ∀ t, Steps p.tables e below (s₁.setTop (mkF m 7 #[.val (.int xk), .val (.int ((xk &&& (65535 : Int32)).toUInt32.toUInt16.toUInt32.toInt32))] [(.int ((xk &&& (65535 : Int32)).toUInt32.toUInt16.toUInt32.toInt32))])) t → Steps p.tables e below (s₁.setTop (entryFrame m #[(.int xk)] maxLocals)) t := by
    intro t k
    refine A0 _ ?_
    refine XS.iloadN X0.here hx rfl (hb hby at_0) rfl ?_
    show Steps p.tables e below (s₁.setTop (mkF m 1 #[.val (.int xk), .unset] [(.int xk)])) _
    refine X0.ldcInt hx hown (mvT hZ (hw _ (List.mem_of_getElem? (i := 0) rfl))) (g := (mkF m 1 #[.val (.int xk), .unset] [(.int xk)])) rfl (hb hby at_1) _ ?_
    show Steps p.tables e below (s₁.setTop (mkF m 3 #[.val (.int xk), .unset] [(.int (65535 : Int32)), (.int xk)])) _
    refine XS.iand X0.here hx rfl (hb hby at_3) rfl ?_
    show Steps p.tables e below (s₁.setTop (mkF m 4 #[.val (.int xk), .unset] [(.int (xk &&& (65535 : Int32)))])) _
    refine XS.i2c X0.here hx rfl (hb hby at_4) rfl ?_
    show Steps p.tables e below (s₁.setTop (mkF m 5 #[.val (.int xk), .unset] [(.int ((xk &&& (65535 : Int32)).toUInt32.toUInt16.toUInt32.toInt32))])) _
    refine XS.istoreN X0.here hx rfl (hb hby at_5) rfl (l' := #[.val (.int xk), .val (.int ((xk &&& (65535 : Int32)).toUInt32.toUInt16.toUInt32.toInt32))]) rfl ?_
    show Steps p.tables e below (s₁.setTop (mkF m 6 #[.val (.int xk), .val (.int ((xk &&& (65535 : Int32)).toUInt32.toUInt16.toUInt32.toInt32))] [])) _
    refine XS.iloadN X0.here hx rfl (hb hby at_6) rfl ?_
    show Steps p.tables e below (s₁.setTop (mkF m 7 #[.val (.int xk), .val (.int ((xk &&& (65535 : Int32)).toUInt32.toUInt16.toUInt32.toInt32))] [(.int ((xk &&& (65535 : Int32)).toUInt32.toUInt16.toUInt32.toInt32))])) _
    exact k
  have hr2 := c_i2c (xk &&& (65535 : Int32))
  have hc0 : ¬ ((xk &&& (65535 : Int32)).toUInt32.toUInt16.toUInt32.toInt32) < 0 := by rw [Int32.lt_iff_toInt_lt, show (0 : Int32).toInt = 0 from rfl]; omega
  have hc1 : ((xk &&& (65535 : Int32)).toUInt32.toUInt16.toUInt32.toInt32) < 65536 := by rw [Int32.lt_iff_toInt_lt, show (65536 : Int32).toInt = 65536 from rfl]; omega
  obtain ⟨_, _, ⟨T73, L73, k73, n73⟩, -, X73, ⟨Lc73, hQ73, l73, y73, z73⟩, st73⟩ := Jvm.LawKit.callS X0 hx (y := (⟨"mortisebind/runtime/XmlCharacters", "isNameStart", "(C)Z"⟩ : MethodName)) hown (mvT hZ (hw _ (List.mem_of_getElem? (i := 1) rfl))) (mvT hZ (hw _ (List.mem_of_getElem? (i := 2) rfl))) (mvT hZ (hw _ (List.mem_of_getElem? (i := 3) rfl))) (mvT hZ (hw _ (List.mem_of_getElem? (i := 4) rfl))) (by decide) (backOf (W := 0) (own_nsM l Z a0 hw [] ((xk &&& (65535 : Int32)).toUInt32.toUInt16.toUInt32.toInt32) va cl h0 n0 Z0 hc0 S0 TB) hZ (hw _ (List.mem_of_getElem? (i := 4) rfl)) (hw _ (List.mem_of_getElem? (i := 3) rfl)) (by decide) (by decide)) (g := (mkF m 7 #[.val (.int xk), .val (.int ((xk &&& (65535 : Int32)).toUInt32.toUInt16.toUInt32.toInt32))] [(.int ((xk &&& (65535 : Int32)).toUInt32.toUInt16.toUInt32.toInt32))])) rfl (by rw [hml]; rfl) (argsL := [(.int ((xk &&& (65535 : Int32)).toUInt32.toUInt16.toUInt32.toInt32))]) (rest := []) (lenOf own_pd1 rfl) rfl (by show 2 * 0 + _ ≤ _; exact Nat.le_of_eq rfl) (hb hby at_7) (fun _ _ => ⟨rfl, e0, (by decide : 0 + 0 ≤ _), (by decide : 0 + 0 ≤ _)⟩)
  dsimp only [Pt.U, Pt.locs, Pt.cells, Pt.slots] at X73 l73 y73 z73 st73 hQ73
  subst l73 y73 z73
  obtain ⟨rfl, Nq73, eh73⟩ := hQ73
  have Nf74 := Fr.app N0 Nq73
  have A75 : ∀ t, Steps p.tables e below (T73.setTop (mkF m 11 #[.val (.int xk), .val (.int ((xk &&& (65535 : Int32)).toUInt32.toUInt16.toUInt32.toInt32))] [(.int ((xk &&& (65535 : Int32)).toUInt32.toUInt16.toUInt32.toInt32)), (.int (own_ns ((xk &&& (65535 : Int32)).toUInt32.toUInt16.toUInt32.toInt32) (atv cl ((xk &&& (65535 : Int32)).toUInt32.toUInt16.toUInt32.toInt32))))])) t → Steps p.tables e below (s₁.setTop (entryFrame m #[(.int xk)] maxLocals)) t := by
    intro t k
    refine A72 _ ?_
    refine st73 _ ?_
    show Steps p.tables e below (T73.setTop (mkF m 10 #[.val (.int xk), .val (.int ((xk &&& (65535 : Int32)).toUInt32.toUInt16.toUInt32.toInt32))] [(.int (own_ns ((xk &&& (65535 : Int32)).toUInt32.toUInt16.toUInt32.toInt32) (atv cl ((xk &&& (65535 : Int32)).toUInt32.toUInt16.toUInt32.toInt32))))])) _
    refine XS.iloadN X73.here hx rfl (hb hby at_10) rfl ?_
    show Steps p.tables e below (T73.setTop (mkF m 11 #[.val (.int xk), .val (.int ((xk &&& (65535 : Int32)).toUInt32.toUInt16.toUInt32.toInt32))] [(.int ((xk &&& (65535 : Int32)).toUInt32.toUInt16.toUInt32.toInt32)), (.int (own_ns ((xk &&& (65535 : Int32)).toUInt32.toUInt16.toUInt32.toInt32) (atv cl ((xk &&& (65535 : Int32)).toUInt32.toUInt16.toUInt32.toInt32))))])) _
    exact k
  obtain ⟨_, _, ⟨T76, L76, k76, n76⟩, -, X76, ⟨Lc76, hQ76, l76, y76, z76⟩, st76⟩ := Jvm.LawKit.callS X73 hx (y := (⟨"mortisebind/runtime/XmlCharactersIsNameStartPinLaw", "expected", "(I)Z"⟩ : MethodName)) hown (mvT hZ (hw _ (List.mem_of_getElem? (i := 7) rfl))) (mvT hZ (hw _ (List.mem_of_getElem? (i := 8) rfl))) (mvT hZ (hw _ (List.mem_of_getElem? (i := 9) rfl))) (mvT hZ (hw _ (List.mem_of_getElem? (i := 10) rfl))) (by decide) (backOf (W := 1) (own_expM l Z a0 hw [] ((xk &&& (65535 : Int32)).toUInt32.toUInt16.toUInt32.toInt32) h0 n0 Z0) hZ (hw _ (List.mem_of_getElem? (i := 10) rfl)) (hw _ (List.mem_of_getElem? (i := 9) rfl)) (by decide) (by decide)) (g := (mkF m 11 #[.val (.int xk), .val (.int ((xk &&& (65535 : Int32)).toUInt32.toUInt16.toUInt32.toInt32))] [(.int ((xk &&& (65535 : Int32)).toUInt32.toUInt16.toUInt32.toInt32)), (.int (own_ns ((xk &&& (65535 : Int32)).toUInt32.toUInt16.toUInt32.toInt32) (atv cl ((xk &&& (65535 : Int32)).toUInt32.toUInt16.toUInt32.toInt32))))])) rfl (by rw [hml]; rfl) (argsL := [(.int ((xk &&& (65535 : Int32)).toUInt32.toUInt16.toUInt32.toInt32))]) (rest := [(.int (own_ns ((xk &&& (65535 : Int32)).toUInt32.toUInt16.toUInt32.toInt32) (atv cl ((xk &&& (65535 : Int32)).toUInt32.toUInt16.toUInt32.toInt32))))]) (lenOf own_pd0 rfl) rfl (by show 2 * 0 + _ ≤ _; exact Nat.le_of_eq rfl) (hb hby at_11) (fun _ _ => ⟨rfl, eh73, (by decide : 0 + 0 ≤ _), (by decide : 0 + 0 ≤ _)⟩)
  dsimp only [Pt.U, Pt.locs, Pt.cells, Pt.slots] at X76 l76 y76 z76 st76 hQ76
  subst l76 y76 z76
  obtain ⟨rfl, Nq76, eh76⟩ := hQ76
  have Nf77 := Fr.app Nf74 Nq76
  have A78 : ∀ t, Steps p.tables e below (T76.setTop (mkF m 14 #[.val (.int xk), .val (.int ((xk &&& (65535 : Int32)).toUInt32.toUInt16.toUInt32.toInt32))] [(.int (own_exp ((xk &&& (65535 : Int32)).toUInt32.toUInt16.toUInt32.toInt32))), (.int (own_ns ((xk &&& (65535 : Int32)).toUInt32.toUInt16.toUInt32.toInt32) (atv cl ((xk &&& (65535 : Int32)).toUInt32.toUInt16.toUInt32.toInt32))))])) t → Steps p.tables e below (s₁.setTop (entryFrame m #[(.int xk)] maxLocals)) t := by
    intro t k
    refine A75 _ ?_
    refine st76 _ ?_
    show Steps p.tables e below (T76.setTop (mkF m 14 #[.val (.int xk), .val (.int ((xk &&& (65535 : Int32)).toUInt32.toUInt16.toUInt32.toInt32))] [(.int (own_exp ((xk &&& (65535 : Int32)).toUInt32.toUInt16.toUInt32.toInt32))), (.int (own_ns ((xk &&& (65535 : Int32)).toUInt32.toUInt16.toUInt32.toInt32) (atv cl ((xk &&& (65535 : Int32)).toUInt32.toUInt16.toUInt32.toInt32))))])) _
    exact k
  have hq : (own_ns ((xk &&& (65535 : Int32)).toUInt32.toUInt16.toUInt32.toInt32) (atv cl ((xk &&& (65535 : Int32)).toUInt32.toUInt16.toUInt32.toInt32))) = (own_exp ((xk &&& (65535 : Int32)).toUInt32.toUInt16.toUInt32.toInt32)) := own_plain _ _ hc0 hc1 (hasc _ hc0)
  have A79 : ∀ t, Steps p.tables e below (T76.setTop (mkF m 22 #[.val (.int xk), .val (.int ((xk &&& (65535 : Int32)).toUInt32.toUInt16.toUInt32.toInt32))] [(.int (1 : Int32))])) t → Steps p.tables e below (s₁.setTop (entryFrame m #[(.int xk)] maxLocals)) t := by
    intro t k
    refine A78 _ ?_
    refine XS.icmpNo X76.here hx rfl (hb hby at_14) rfl (teq hq).2 ?_
    show Steps p.tables e below (T76.setTop (mkF m 17 #[.val (.int xk), .val (.int ((xk &&& (65535 : Int32)).toUInt32.toUInt16.toUInt32.toInt32))] [])) _
    refine XS.iconst X76.here hx rfl (hb hby at_17) ?_
    show Steps p.tables e below (T76.setTop (mkF m 18 #[.val (.int xk), .val (.int ((xk &&& (65535 : Int32)).toUInt32.toUInt16.toUInt32.toInt32))] [(.int (1 : Int32))])) _
    refine XS.goto X76.here hx rfl (pc0 := 18) (pc' := 22) rfl (hb hby at_18) (by decide) (by decide) ?_
    show Steps p.tables e below (T76.setTop (mkF m 22 #[.val (.int xk), .val (.int ((xk &&& (65535 : Int32)).toUInt32.toUInt16.toUInt32.toInt32))] [(.int (1 : Int32))])) _
    exact k
  obtain ⟨fs, hr, hrun, hended, hW, hsame⟩ := X76.leave (v := some (.int (1 : Int32))) (fun h => by rw [Bd.returns] at h; cases h)
  refine ⟨_, _, A79 _ ?_, hrun, hended, _, _, rfl, ?_, ⟨_, rfl⟩, hW, hsame.mono (by decide) (by decide)⟩
  · exact retN X76 hx (t := .boolean) Bd.returns (by simp) (hb hby at_22) hr
  · show own_Q0 Z xk h0 n0 _ T76.heap _
    rw [eh76]
    exact ⟨rfl, Nf77⟩
theorem own_len {s : State} {args : Array Value} {t : Term} {a : Addr} {cl : Cell} {n : Int32} (ev : t.eval args s none [] s = some (.ref a)) (ha : s.arrayAt? a = some cl) (h : (Term.length t).eval args s none [] s = some (.int n)) : cl.slots.size < 2 ^ 31 ∧ cl.slots.size.toInt32 = n := by
  by_cases hl : cl.slots.size < 2 ^ 31
  · exact ⟨hl, Value.int.inj (Option.some.inj ((len_f ev ha hl).symm.trans h))⟩
  · simp [Term.eval, ev, ha, hl] at h
theorem own_at {s : State} {args : Array Value} {t : Term} {a : Addr} {cl : Cell} {k v : Int32} (ev : t.eval args s none [] s = some (.ref a)) (ha : s.arrayAt? a = some cl) (hk : ¬ k < 0) (h : (Cond.eq (Term.elem t (.int k)) (.int v)).value args s none s [] = some true) : atv cl k = v :=
  atv_of ((elem_f (a := .int k) ev rfl ha hk).symm.trans (Cond.eq_int (Cond.before_iff.mpr h) rfl))
theorem own_elem {s : State} {args : Array Value} {t : Term} {a : Addr} {cl : Cell} {j v x : Int32} (ev : ∀ idx, t.eval args s none idx s = some (.ref a)) (ha : s.arrayAt? a = some cl) (hj : ¬ j < 0) (hx : cl.slots[j.toNatClampNeg]? = some (.int x)) : (Cond.eq (Term.elem t (Term.index 0)) (.int v)).value args s none s [j.toNatClampNeg] = some (decide (x = v)) := by
  have e1 : (Term.elem t (Term.index 0)).eval args s none [j.toNatClampNeg] s = some (.int x) := (elem_f (ev _) (idx_at hj) ha hj).trans hx
  have e2 : (Term.int v).eval args s none [j.toNatClampNeg] s = some (.int v) := rfl
  simp [Cond.value, e1, e2]
theorem own_seg {s : State} {args : Array Value} {t : Term} {a : Addr} {cl : Cell} {lo hi j v x : Int32} (ev : ∀ idx, t.eval args s none idx s = some (.ref a)) (ha : s.arrayAt? a = some cl) (hj : ¬ j < 0) (hs : j.toNatClampNeg < cl.slots.size) (hx : cl.slots[j.toNatClampNeg]? = some (.int x))
    (h : (Cond.all t (Cond.or (Cond.lt (Term.index 0) (.int lo)) (Cond.or (Cond.le (.int hi) (Term.index 0)) (Cond.eq (Term.elem t (Term.index 0)) (.int v))))).value args s none s [] = some true) : lo.toInt ≤ j.toInt → j.toInt < hi.toInt → x = v := by
  intro g1 g2
  have h1 := Cond.all_elim (ev _) ha h _ hs
  have e1 : (Cond.lt (Term.index 0) (.int lo)).value args s none s [j.toNatClampNeg] = some (decide (j < lo)) := Cond.lt_ints (idx_at hj) rfl
  have e2 : (Cond.le (.int hi) (Term.index 0)).value args s none s [j.toNatClampNeg] = some (decide (hi ≤ j)) := Cond.le_ints rfl (idx_at hj)
  rcases or3 h1 e1 e2 (own_elem ev ha hj hx) with q | q | q
  · rw [Int32.lt_iff_toInt_lt] at q; omega
  · rw [Int32.lt_iff_toInt_lt] at q; omega
  · exact q
theorem own_segA {s : State} {args : Array Value} {t : Term} {a : Addr} {cl : Cell} {hi j v x : Int32} (ev : ∀ idx, t.eval args s none idx s = some (.ref a)) (ha : s.arrayAt? a = some cl) (hj : ¬ j < 0) (hs : j.toNatClampNeg < cl.slots.size) (hx : cl.slots[j.toNatClampNeg]? = some (.int x))
    (h : (Cond.all t (Cond.or (Cond.le (.int hi) (Term.index 0)) (Cond.eq (Term.elem t (Term.index 0)) (.int v)))).value args s none s [] = some true) : j.toInt < hi.toInt → x = v := by
  intro g2
  have h1 := Cond.all_elim (ev _) ha h _ hs
  have e2 : (Cond.le (.int hi) (Term.index 0)).value args s none s [j.toNatClampNeg] = some (decide (hi ≤ j)) := Cond.le_ints rfl (idx_at hj)
  rcases or_e2 e2 (own_elem ev ha hj hx) h1 with q | q
  · rw [Int32.le_iff_toInt_le] at q; omega
  · exact q
theorem own_segZ {s : State} {args : Array Value} {t : Term} {a : Addr} {cl : Cell} {lo j v x : Int32} (ev : ∀ idx, t.eval args s none idx s = some (.ref a)) (ha : s.arrayAt? a = some cl) (hj : ¬ j < 0) (hs : j.toNatClampNeg < cl.slots.size) (hx : cl.slots[j.toNatClampNeg]? = some (.int x))
    (h : (Cond.all t (Cond.or (Cond.lt (Term.index 0) (.int lo)) (Cond.eq (Term.elem t (Term.index 0)) (.int v)))).value args s none s [] = some true) : lo.toInt ≤ j.toInt → x = v := by
  intro g1
  have h1 := Cond.all_elim (ev _) ha h _ hs
  have e1 : (Cond.lt (Term.index 0) (.int lo)).value args s none s [j.toNatClampNeg] = some (decide (j < lo)) := Cond.lt_ints (idx_at hj) rfl
  rcases or_e2 e1 (own_elem ev ha hj hx) h1 with q | q
  · rw [Int32.lt_iff_toInt_lt] at q; omega
  · exact q
set_option maxRecDepth 65536 in
set_option maxHeartbeats 40000000 in
theorem comes_1 {Post : Tables → Env → Array Value → State → Outcome → State → Prop} (hpost : ∀ tb e args s v u, (limb_1_1.after args s (.returned v) u = true ∧ limb_1_2.after args s (.returned v) u = true ∧ True) → FrameEnd s (.returned v) u (Jvm.fieldLocs frame_1_writes args s ++ Jvm.arrayLocs frame_1_arrays args s ++ Jvm.staticLocs frame_1_statics s) 0 0 → Post tb e args s (.returned v) u) :
    ArmFor flags0 classFile x code maxLocals ret World_1 tables_1 room_1 Calls_1 rest_1 Pre_1 Post := by
  intro l hfl _ _ p e ha hc hk s m args below hf hA hF happ hP
  obtain ⟨hcalls, hrest, hpre⟩ := hP
  obtain ⟨-, -, -, hnamed, -, -, -, hat⟩ := (Spec.applies_iff hf).mp happ
  obtain ⟨hg, hn⟩ := and_e (Cond.before_iff.mp (show (Jvm.Cond.and given_1 narrow_1).before args s = true from hpre))
  obtain ⟨hcount, hg⟩ := and_e hg
  have ga0 := hg
  obtain ⟨w0, rfl⟩ : ∃ w0 : Value, args = #[w0] := by
    have hs : args.size = 1 := by simpa [Cond.value, given_1] using hcount
    obtain ⟨L⟩ := args
    match L, hs with
    | [w0], _ => exact ⟨w0, rfl⟩
  have hw := fun d (hd : d ∈ tables_1) => atoms_spec (ws := Jvm.Cond.code x code maxLocals ret :: tables_1) hat d (List.mem_cons_of_mem _ hd)
  have hfit : Fit s := fun {y c} hc i hi => by
    obtain ⟨ha, rfl⟩ := Array.getElem?_eq_some_iff.mp hc
    have q := List.all_eq_true.mp ((Array.all_eq_true_iff_forall_mem.mp hF) _ (Array.getElem_mem ha)) i (List.mem_range.mpr hi)
    simpa [Array.getElem?_eq_getElem hi] using q
  obtain ⟨i0, ei0⟩ := is_v ga0
  obtain rfl : w0 = (.int i0) := Option.some.inj ei0
  obtain ⟨c0, hn⟩ := and_e hn
  obtain ⟨c1, hn⟩ := and_e hn
  obtain ⟨c2, hn⟩ := and_e hn
  obtain ⟨c3, hn⟩ := and_e hn
  obtain ⟨c4, hn⟩ := and_e hn
  obtain ⟨c5, hn⟩ := and_e hn
  obtain ⟨c6, hn⟩ := and_e hn
  obtain ⟨c7, hn⟩ := and_e hn
  obtain ⟨c8, hn⟩ := and_e hn
  obtain ⟨c9, hn⟩ := and_e hn
  obtain ⟨c10, hn⟩ := and_e hn
  obtain ⟨c11, hn⟩ := and_e hn
  obtain ⟨c12, hn⟩ := and_e hn
  obtain ⟨c13, hn⟩ := and_e hn
  obtain ⟨c14, hn⟩ := and_e hn
  obtain ⟨c15, hn⟩ := and_e hn
  obtain ⟨c16, hn⟩ := and_e hn
  obtain ⟨c17, hn⟩ := and_e hn
  obtain ⟨c18, hn⟩ := and_e hn
  obtain ⟨c19, hn⟩ := and_e hn
  obtain ⟨c20, hn⟩ := and_e hn
  obtain ⟨c21, hn⟩ := and_e hn
  obtain ⟨c22, hn⟩ := and_e hn
  obtain ⟨c23, hn⟩ := and_e hn
  obtain ⟨c24, hn⟩ := and_e hn
  obtain ⟨c25, hn⟩ := and_e hn
  obtain ⟨c26, hn⟩ := and_e hn
  obtain ⟨c27, hn⟩ := and_e hn
  obtain ⟨c28, hn⟩ := and_e hn
  obtain ⟨c29, hn⟩ := and_e hn
  obtain ⟨c30, hn⟩ := and_e hn
  obtain ⟨c31, hn⟩ := and_e hn
  obtain ⟨c32, hn⟩ := and_e hn
  have c33 := hn
  obtain ⟨va, ev⟩ := arr_v c0
  obtain ⟨cl, Ar⟩ := Arr.start ev c0
  have S0 := Sta.start ev (Or.inr ⟨(hw _ (List.mem_of_getElem? (i := 3) rfl)), (hw _ (List.mem_of_getElem? (i := 6) rfl))⟩)
  have hal := (State.Warmed39.refl s).alike
  have hat2 := Arr.fin hal Ar
  obtain ⟨hl31, hl128⟩ := own_len ev hat2 (Cond.eq_int (Cond.before_iff.mpr c1) rfl)
  have TB := Tab.start hfit Ar (by simp) hl31 hl128 (by decide)
  have evA : ∀ idx, (Term.static "mortisebind/runtime/XmlCharacters" "ASCII" "[B").eval #[.int i0] s none idx s = some (.ref va) := fun _ => ev
  have hasc : ∀ xc : Int32, ¬ xc < 0 → xc < 128 → (atv cl xc &&& 1 = 0 ↔ ¬ (xc.toInt = 58 ∨ (65 ≤ xc.toInt ∧ xc.toInt ≤ 90) ∨ xc.toInt = 95 ∨ (97 ≤ xc.toInt ∧ xc.toInt ≤ 122))) := by
    intro j hj0 hj1
    have hin := inb_of TB.2.1 ⟨hj0, hj1⟩
    have hs : j.toNatClampNeg < cl.slots.size := Nat.lt_of_not_le fun y => hin (Or.inr y)
    have hx := TB.2.2.2 j hin
    have b0 : 0 ≤ j.toInt := by rw [Int32.lt_iff_toInt_lt, show (0 : Int32).toInt = 0 from rfl] at hj0; omega
    have b1 : j.toInt < 128 := by rw [Int32.lt_iff_toInt_lt, show (128 : Int32).toInt = 128 from rfl] at hj1; exact hj1
    rcases (by omega : (0 ≤ j.toInt ∧ j.toInt < 9) ∨ (9 ≤ j.toInt ∧ j.toInt < 10) ∨ (10 ≤ j.toInt ∧ j.toInt < 11) ∨ (11 ≤ j.toInt ∧ j.toInt < 12) ∨ (12 ≤ j.toInt ∧ j.toInt < 13) ∨ (13 ≤ j.toInt ∧ j.toInt < 14) ∨ (14 ≤ j.toInt ∧ j.toInt < 32) ∨ (32 ≤ j.toInt ∧ j.toInt < 33) ∨ (33 ≤ j.toInt ∧ j.toInt < 34) ∨ (34 ≤ j.toInt ∧ j.toInt < 35) ∨ (35 ≤ j.toInt ∧ j.toInt < 36) ∨ (36 ≤ j.toInt ∧ j.toInt < 37) ∨ (37 ≤ j.toInt ∧ j.toInt < 38) ∨ (38 ≤ j.toInt ∧ j.toInt < 39) ∨ (39 ≤ j.toInt ∧ j.toInt < 45) ∨ (45 ≤ j.toInt ∧ j.toInt < 46) ∨ (46 ≤ j.toInt ∧ j.toInt < 47) ∨ (47 ≤ j.toInt ∧ j.toInt < 48) ∨ (48 ≤ j.toInt ∧ j.toInt < 58) ∨ (58 ≤ j.toInt ∧ j.toInt < 59) ∨ (59 ≤ j.toInt ∧ j.toInt < 60) ∨ (60 ≤ j.toInt ∧ j.toInt < 61) ∨ (61 ≤ j.toInt ∧ j.toInt < 62) ∨ (62 ≤ j.toInt ∧ j.toInt < 63) ∨ (63 ≤ j.toInt ∧ j.toInt < 64) ∨ (64 ≤ j.toInt ∧ j.toInt < 65) ∨ (65 ≤ j.toInt ∧ j.toInt < 91) ∨ (91 ≤ j.toInt ∧ j.toInt < 95) ∨ (95 ≤ j.toInt ∧ j.toInt < 96) ∨ (96 ≤ j.toInt ∧ j.toInt < 97) ∨ (97 ≤ j.toInt ∧ j.toInt < 123) ∨ (123 ≤ j.toInt ∧ j.toInt < 128)) with h | h | h | h | h | h | h | h | h | h | h | h | h | h | h | h | h | h | h | h | h | h | h | h | h | h | h | h | h | h | h | h
    · rw [show atv cl j = (0 : Int32) from (own_segA evA hat2 hj0 hs hx c2 h.2)]
      exact iff_of_true (by decide) (by omega)
    · rw [show atv cl j = (12 : Int32) from (by obtain rfl : j = 9 := Int32.toInt_inj.mp (show j.toInt = 9 by omega); exact own_at ev hat2 (by decide) c3)]
      exact iff_of_true (by decide) (by omega)
    · rw [show atv cl j = (28 : Int32) from (by obtain rfl : j = 10 := Int32.toInt_inj.mp (show j.toInt = 10 by omega); exact own_at ev hat2 (by decide) c4)]
      exact iff_of_true (by decide) (by omega)
    · rw [show atv cl j = (0 : Int32) from (by obtain rfl : j = 11 := Int32.toInt_inj.mp (show j.toInt = 11 by omega); exact own_at ev hat2 (by decide) c5)]
      exact iff_of_true (by decide) (by omega)
    · rw [show atv cl j = (0 : Int32) from (by obtain rfl : j = 12 := Int32.toInt_inj.mp (show j.toInt = 12 by omega); exact own_at ev hat2 (by decide) c6)]
      exact iff_of_true (by decide) (by omega)
    · rw [show atv cl j = (28 : Int32) from (by obtain rfl : j = 13 := Int32.toInt_inj.mp (show j.toInt = 13 by omega); exact own_at ev hat2 (by decide) c7)]
      exact iff_of_true (by decide) (by omega)
    · rw [show atv cl j = (0 : Int32) from (own_seg evA hat2 hj0 hs hx c8 h.1 h.2)]
      exact iff_of_true (by decide) (by omega)
    · rw [show atv cl j = (28 : Int32) from (by obtain rfl : j = 32 := Int32.toInt_inj.mp (show j.toInt = 32 by omega); exact own_at ev hat2 (by decide) c9)]
      exact iff_of_true (by decide) (by omega)
    · rw [show atv cl j = (20 : Int32) from (by obtain rfl : j = 33 := Int32.toInt_inj.mp (show j.toInt = 33 by omega); exact own_at ev hat2 (by decide) c10)]
      exact iff_of_true (by decide) (by omega)
    · rw [show atv cl j = (4 : Int32) from (by obtain rfl : j = 34 := Int32.toInt_inj.mp (show j.toInt = 34 by omega); exact own_at ev hat2 (by decide) c11)]
      exact iff_of_true (by decide) (by omega)
    · rw [show atv cl j = (20 : Int32) from (by obtain rfl : j = 35 := Int32.toInt_inj.mp (show j.toInt = 35 by omega); exact own_at ev hat2 (by decide) c12)]
      exact iff_of_true (by decide) (by omega)
    · rw [show atv cl j = (20 : Int32) from (by obtain rfl : j = 36 := Int32.toInt_inj.mp (show j.toInt = 36 by omega); exact own_at ev hat2 (by decide) c13)]
      exact iff_of_true (by decide) (by omega)
    · rw [show atv cl j = (20 : Int32) from (by obtain rfl : j = 37 := Int32.toInt_inj.mp (show j.toInt = 37 by omega); exact own_at ev hat2 (by decide) c14)]
      exact iff_of_true (by decide) (by omega)
    · rw [show atv cl j = (4 : Int32) from (by obtain rfl : j = 38 := Int32.toInt_inj.mp (show j.toInt = 38 by omega); exact own_at ev hat2 (by decide) c15)]
      exact iff_of_true (by decide) (by omega)
    · rw [show atv cl j = (20 : Int32) from (own_seg evA hat2 hj0 hs hx c16 h.1 h.2)]
      exact iff_of_true (by decide) (by omega)
    · rw [show atv cl j = (22 : Int32) from (by obtain rfl : j = 45 := Int32.toInt_inj.mp (show j.toInt = 45 by omega); exact own_at ev hat2 (by decide) c17)]
      exact iff_of_true (by decide) (by omega)
    · rw [show atv cl j = (22 : Int32) from (by obtain rfl : j = 46 := Int32.toInt_inj.mp (show j.toInt = 46 by omega); exact own_at ev hat2 (by decide) c18)]
      exact iff_of_true (by decide) (by omega)
    · rw [show atv cl j = (20 : Int32) from (by obtain rfl : j = 47 := Int32.toInt_inj.mp (show j.toInt = 47 by omega); exact own_at ev hat2 (by decide) c19)]
      exact iff_of_true (by decide) (by omega)
    · rw [show atv cl j = (22 : Int32) from (own_seg evA hat2 hj0 hs hx c20 h.1 h.2)]
      exact iff_of_true (by decide) (by omega)
    · rw [show atv cl j = (23 : Int32) from (by obtain rfl : j = 58 := Int32.toInt_inj.mp (show j.toInt = 58 by omega); exact own_at ev hat2 (by decide) c21)]
      exact iff_of_false (by decide) (fun q => q (by omega))
    · rw [show atv cl j = (20 : Int32) from (by obtain rfl : j = 59 := Int32.toInt_inj.mp (show j.toInt = 59 by omega); exact own_at ev hat2 (by decide) c22)]
      exact iff_of_true (by decide) (by omega)
    · rw [show atv cl j = (4 : Int32) from (by obtain rfl : j = 60 := Int32.toInt_inj.mp (show j.toInt = 60 by omega); exact own_at ev hat2 (by decide) c23)]
      exact iff_of_true (by decide) (by omega)
    · rw [show atv cl j = (20 : Int32) from (by obtain rfl : j = 61 := Int32.toInt_inj.mp (show j.toInt = 61 by omega); exact own_at ev hat2 (by decide) c24)]
      exact iff_of_true (by decide) (by omega)
    · rw [show atv cl j = (4 : Int32) from (by obtain rfl : j = 62 := Int32.toInt_inj.mp (show j.toInt = 62 by omega); exact own_at ev hat2 (by decide) c25)]
      exact iff_of_true (by decide) (by omega)
    · rw [show atv cl j = (20 : Int32) from (by obtain rfl : j = 63 := Int32.toInt_inj.mp (show j.toInt = 63 by omega); exact own_at ev hat2 (by decide) c26)]
      exact iff_of_true (by decide) (by omega)
    · rw [show atv cl j = (20 : Int32) from (by obtain rfl : j = 64 := Int32.toInt_inj.mp (show j.toInt = 64 by omega); exact own_at ev hat2 (by decide) c27)]
      exact iff_of_true (by decide) (by omega)
    · rw [show atv cl j = (23 : Int32) from (own_seg evA hat2 hj0 hs hx c28 h.1 h.2)]
      exact iff_of_false (by decide) (fun q => q (by omega))
    · rw [show atv cl j = (4 : Int32) from (own_seg evA hat2 hj0 hs hx c29 h.1 h.2)]
      exact iff_of_true (by decide) (by omega)
    · rw [show atv cl j = (23 : Int32) from (by obtain rfl : j = 95 := Int32.toInt_inj.mp (show j.toInt = 95 by omega); exact own_at ev hat2 (by decide) c30)]
      exact iff_of_false (by decide) (fun q => q (by omega))
    · rw [show atv cl j = (4 : Int32) from (by obtain rfl : j = 96 := Int32.toInt_inj.mp (show j.toInt = 96 by omega); exact own_at ev hat2 (by decide) c31)]
      exact iff_of_true (by decide) (by omega)
    · rw [show atv cl j = (23 : Int32) from (own_seg evA hat2 hj0 hs hx c32 h.1 h.2)]
      exact iff_of_false (by decide) (fun q => q (by omega))
    · rw [show atv cl j = (4 : Int32) from (own_segZ evA hat2 hj0 hs hx c33 h.1)]
      exact iff_of_true (by decide) (by omega)
  obtain ⟨n, o, h1, h2, h3, _, L, rfl, ⟨rfl, N⟩, hq⟩ := own_law l s _ hw tables_1 i0 va cl s.heap s.heap.size (Nat.le_refl _) S0 TB hasc p e ha hc hk s m _ below hf ((Spec.applies_iff_loose hf).mp happ).1 ⟨rfl, State.Warmed39.refl s, rfl⟩ trivial
  refine ⟨n, _, h1, h2, h3, hpost _ _ _ _ _ _ ⟨Cond.after_iff.mpr rfl, Cond.after_iff.mpr (eq_i res_at (Term.int_eval (1)) rfl), trivial⟩ ⟨hq.1, hq.2.1, (hq.2.2.sift fun y hy => Or.inr (N y hy)).mono (by decide) (by decide)⟩⟩
theorem main_1_1 : Claimed_1_1 := comes_1 fun _ _ _ _ _ _ h hF => ⟨h.1, hF⟩
theorem main_1_2 : Claimed_1_2 := comes_1 fun _ _ _ _ _ _ h hF => ⟨h.2.1, hF⟩
end Jvm.Pilot.@@N@@
namespace Jvm.Pilot.@@N@@
open Jvm Jvm.ClassFile Sem Op Lib Jvm.Free Jvm.Stand Jvm.Pilot.@@N@@.Jvm.D
/-! MADE BY PROGRAM (witnessworld.py) out of the Statement's table words and the real class files: 9 classes; the members and pool entries that the words name. The judged class is class 1, her method 1. -/
namespace start1
open Jvm.ClassFile
def u (s : String) : CpInfo := .utf8 (stringToUtf16 s)
/-- a pool by its gaps: so many unusable entries, then the entry; so many at the end -/
def gap : Nat → List CpInfo → List CpInfo
  | 0, r => r
  | n + 1, r => .unusable :: gap n r
def poolList (es : List (Nat × CpInfo)) (last : Nat) : List CpInfo := es.foldr (fun e r => gap e.1 (e.2 :: r)) (gap last [])
def pool (es : List (Nat × CpInfo)) (last : Nat) : Array CpInfo := ⟨poolList es last⟩
def fileOf (pool : Array CpInfo) (this : Nat) (attrs : Array Attribute := #[]) (ms : Array MethodInfo := #[]) (fl : Nat := 33) (sup : Nat := 0) (ifs : Array Nat := #[]) (fds : Array FieldInfo := #[]) : ClassFile where
  minorVersion := 0
  majorVersion := 65
  constantPool := pool
  accessFlags := fl
  thisClass := this
  superClass := sup
  interfaces := ifs
  fields := fds
  methods := ms
  attributes := attrs
def plain (name : String) (sup : Option ClassId) : Class where
  name := name
  kind := .ordinary
  loader := none
  accessFlags := 33
  super := sup
  interfaces := #[]
  cf := none
  fields := #[]
  methods := #[]
  instanceTypes := #[]
  staticTypes := #[]
  resolved := #[]
  callSites := []
  init := .initialized
  statics := none
  mirror := none

def pool0 : Array CpInfo := pool [(5, u "<init>"), (0, u "()V"), (1, .class_ 10), (1, u "java/lang/Object")] 113

def k0m0 : Method := { name := "<init>", desc := "()V", sig := { parameters := [], returnType := none }, accessFlags := 1, code := none }
/-- java/lang/Object -/
def k0 : Class := { plain "java/lang/Object" none with
  accessFlags := 33
  interfaces := #[]
  cf := some (fileOf pool0 8 #[] #[{ accessFlags := 1, nameIndex := 5, descriptorIndex := 6, attributes := #[] }] 33 0 #[] #[])
  fields := #[]
  methods := #[k0m0]
  instanceTypes := #[]
  staticTypes := #[]
  resolved := Array.replicate 124 none
  statics := none }

def pool1 : Array CpInfo := pool [(2, .class_ 4), (1, u "java/lang/Object"), (0, u "<init>"), (0, u "()V"), (0, .integer 65535), (0, .methodref 9 10), (0, .class_ 11), (0, .nameAndType 12 13), (0, u "mortisebind/runtime/XmlCharacters"), (0, u "isNameStart"), (0, u "(C)Z"), (0, .methodref 15 16), (0, .class_ 17), (0, .nameAndType 18 19), (0, u "mortisebind/runtime/XmlCharactersIsNameStartPinLaw"), (0, u "expected"), (0, u "(I)Z"), (0, .methodref 15 21), (0, .nameAndType 22 19), (0, u "excluded"), (0, .integer 55296), (0, .integer 63743), (0, .integer 64976), (0, .integer 65007), (0, .integer 65534), (2, u "law")] 3

def k1m0 : Method := { name := "<init>", desc := "()V", sig := { parameters := [], returnType := none }, accessFlags := 2, code := none }
def k1c1 : Code := { maxStack := 2, maxLocals := 2, code := code, exceptionTable := #[], attributes := #[] }
def k1m1 : Method := { name := "law", desc := "(I)Z", sig := { parameters := [.int], returnType := some .boolean }, accessFlags := 9, code := some k1c1 }
def k1c2 : Code := { maxStack := 2, maxLocals := 1, code := method_3_code, exceptionTable := #[], attributes := #[] }
def k1m2 : Method := { name := "expected", desc := "(I)Z", sig := { parameters := [.int], returnType := some .boolean }, accessFlags := 10, code := some k1c2 }
def k1c3 : Code := { maxStack := 2, maxLocals := 1, code := method_4_code, exceptionTable := #[], attributes := #[] }
def k1m3 : Method := { name := "excluded", desc := "(I)Z", sig := { parameters := [.int], returnType := some .boolean }, accessFlags := 10, code := some k1c3 }
/-- mortisebind/runtime/XmlCharactersIsNameStartPinLaw -/
def k1 : Class := { plain "mortisebind/runtime/XmlCharactersIsNameStartPinLaw" (some 0) with
  accessFlags := 49
  interfaces := #[]
  cf := some (fileOf pool1 15 #[] #[{ accessFlags := 2, nameIndex := 5, descriptorIndex := 6, attributes := #[] }, { accessFlags := 9, nameIndex := 30, descriptorIndex := 19, attributes := #[] }, { accessFlags := 10, nameIndex := 18, descriptorIndex := 19, attributes := #[] }, { accessFlags := 10, nameIndex := 22, descriptorIndex := 19, attributes := #[] }] 49 2 #[] #[])
  fields := #[]
  methods := #[k1m0, k1m1, k1m2, k1m3]
  instanceTypes := #[]
  staticTypes := #[]
  resolved := Array.replicate 34 none
  statics := none }

def pool2 : Array CpInfo := pool [(2, .class_ 4), (1, u "java/lang/Object"), (0, u "<init>"), (0, u "()V"), (0, .integer 55295), (1, .integer 65533), (2, .fieldref 13 14), (0, .class_ 15), (0, .nameAndType 16 17), (0, u "mortisebind/runtime/XmlCharacters"), (0, u "ASCII"), (0, u "[B"), (0, .integer 63744), (0, .integer 64975), (0, .integer 65008), (2, u "isNameStart"), (0, u "(C)Z"), (14, u "NAME_START"), (0, u "I"), (2, u "NAME"), (1, u "CHAR"), (1, u "SPACE"), (1, u "PUBLIC_ID")] 17

def k2m0 : Method := { name := "<init>", desc := "()V", sig := { parameters := [], returnType := none }, accessFlags := 2, code := none }
def k2c1 : Code := { maxStack := 2, maxLocals := 1, code := prog_47_method_7_code, exceptionTable := #[], attributes := #[] }
def k2m1 : Method := { name := "isNameStart", desc := "(C)Z", sig := { parameters := [.char], returnType := some .boolean }, accessFlags := 8, code := some k2c1 }
/-- mortisebind/runtime/XmlCharacters -/
def k2 : Class := { plain "mortisebind/runtime/XmlCharacters" (some 0) with
  accessFlags := 48
  interfaces := #[]
  cf := some (fileOf pool2 13 #[] #[{ accessFlags := 2, nameIndex := 5, descriptorIndex := 6, attributes := #[] }, { accessFlags := 8, nameIndex := 23, descriptorIndex := 24, attributes := #[] }] 48 2 #[] #[{ accessFlags := 26, nameIndex := 39, descriptorIndex := 40, attributes := #[] }, { accessFlags := 26, nameIndex := 43, descriptorIndex := 40, attributes := #[] }, { accessFlags := 26, nameIndex := 45, descriptorIndex := 40, attributes := #[] }, { accessFlags := 26, nameIndex := 47, descriptorIndex := 40, attributes := #[] }, { accessFlags := 26, nameIndex := 49, descriptorIndex := 40, attributes := #[] }, { accessFlags := 26, nameIndex := 16, descriptorIndex := 17, attributes := #[] }])
  fields := #[{ name := "NAME_START", type := .int, accessFlags := 26, slot := 0, constantValue := 0 }, { name := "NAME", type := .int, accessFlags := 26, slot := 1, constantValue := 0 }, { name := "CHAR", type := .int, accessFlags := 26, slot := 2, constantValue := 0 }, { name := "SPACE", type := .int, accessFlags := 26, slot := 3, constantValue := 0 }, { name := "PUBLIC_ID", type := .int, accessFlags := 26, slot := 4, constantValue := 0 }, { name := "ASCII", type := (.array .byte), accessFlags := 26, slot := 5, constantValue := 0 }]
  methods := #[k2m0, k2m1]
  instanceTypes := #[]
  staticTypes := #[.int, .int, .int, .int, .int, (.array .byte)]
  resolved := Array.replicate 67 none
  statics := some 0 }

def pool3 : Array CpInfo := pool [(1, u "java/lang/Cloneable"), (0, .class_ 1), (0, u "java/lang/Object"), (0, .class_ 3)] 3

/-- java/lang/Cloneable -/
def k3 : Class := { plain "java/lang/Cloneable" (some 0) with
  accessFlags := 1537
  interfaces := #[]
  cf := some (fileOf pool3 2 #[] #[] 1537 4 #[] #[])
  fields := #[]
  methods := #[]
  instanceTypes := #[]
  staticTypes := #[]
  resolved := Array.replicate 8 none
  statics := none }

def pool4 : Array CpInfo := pool [(1, u "java/io/Serializable"), (0, .class_ 1), (0, u "java/lang/Object"), (0, .class_ 3)] 3

/-- java/io/Serializable -/
def k4 : Class := { plain "java/io/Serializable" (some 0) with
  accessFlags := 1537
  interfaces := #[]
  cf := some (fileOf pool4 2 #[] #[] 1537 4 #[] #[])
  fields := #[]
  methods := #[]
  instanceTypes := #[]
  staticTypes := #[]
  resolved := Array.replicate 8 none
  statics := none }

/-- the primitive byte -/
def k5 : Class := { plain "byte" none with kind := .primitive 'B', accessFlags := 0x411 }
/-- [B -/
def k6 : Class := { plain "[B" (some 0) with kind := .array 5 .byte, interfaces := #[3, 4], accessFlags := 1041 }

/-- the primitive int -/
def k7 : Class := { plain "int" none with kind := .primitive 'I', accessFlags := 0x411 }
/-- [I -/
def k8 : Class := { plain "[I" (some 0) with kind := .array 7 .int, interfaces := #[3, 4], accessFlags := 1041 }

def heap : Heap := #[{ cls := 2, slots := #[.int 0, .int 0, .int 0, .int 0, .int 0, .ref 1], vm := .statics 2 },
  { cls := 6, slots := #[.int 0, .int 0, .int 0, .int 0, .int 0, .int 0, .int 0, .int 0, .int 0, .int 12, .int 28, .int 0, .int 0, .int 28, .int 0, .int 0, .int 0, .int 0, .int 0, .int 0, .int 0, .int 0, .int 0, .int 0, .int 0, .int 0, .int 0, .int 0, .int 0, .int 0, .int 0, .int 0, .int 28, .int 20, .int 4, .int 20, .int 20, .int 20, .int 4, .int 20, .int 20, .int 20, .int 20, .int 20, .int 20, .int 22, .int 22, .int 20, .int 22, .int 22, .int 22, .int 22, .int 22, .int 22, .int 22, .int 22, .int 22, .int 22, .int 23, .int 20, .int 4, .int 20, .int 4, .int 20, .int 20, .int 23, .int 23, .int 23, .int 23, .int 23, .int 23, .int 23, .int 23, .int 23, .int 23, .int 23, .int 23, .int 23, .int 23, .int 23, .int 23, .int 23, .int 23, .int 23, .int 23, .int 23, .int 23, .int 23, .int 23, .int 23, .int 23, .int 4, .int 4, .int 4, .int 4, .int 23, .int 4, .int 23, .int 23, .int 23, .int 23, .int 23, .int 23, .int 23, .int 23, .int 23, .int 23, .int 23, .int 23, .int 23, .int 23, .int 23, .int 23, .int 23, .int 23, .int 23, .int 23, .int 23, .int 23, .int 23, .int 23, .int 23, .int 23, .int 4, .int 4, .int 4, .int 4, .int 4], vm := .none }]
def classes : Array Class := #[k0, k1, k2, k3, k4, k5, k6, k7, k8]
def interned : List (Array UInt16 × Addr) := []
def slotsUsed : Nat := 134
def theMethod : MethodId := ⟨1, 1⟩
def args0 : Array Value := #[.int 5]
def aboutOver (below : List Frame) : State where
  vm := { classes := classes, interned := interned.toArray }
  heap := heap
  slotsUsed := slotsUsed
  threads := #[{ frames := .invoking theMethod args0 :: below }]
def below0 : List Frame := [.native { method := ⟨0, 0⟩, args := #[] }]
def about1 : State := aboutOver below0
def p0 : Program := .bare "" "" ""
def e0 : Env := launch0.env 0 0 0
theorem w_frames : about1.frames = Frame.invoking theMethod args0 :: below0 := rfl
set_option maxRecDepth 65536 in
theorem w_args : argsFit about1.vm theMethod args0 = true := by decide +kernel
set_option maxRecDepth 65536 in
theorem w_heap : heapFits about1 = true := by decide +kernel
set_option maxRecDepth 65536 in
theorem w_runnable : about1.curStatus? = some .runnable := by decide +kernel
set_option maxRecDepth 65536 in
theorem w_alone : about1.alone = true := by decide +kernel
set_option maxRecDepth 65536 in
theorem w_named : about1.methodNamed? x = some theMethod := by decide +kernel
set_option maxRecDepth 65536 in
theorem w_hears : about1.hears theMethod below0 = true := by decide +kernel
set_option maxRecDepth 65536 in
theorem w_ripe : about1.ripe theMethod args0 below0 = true := by decide +kernel
theorem w_running : about1.status = .running := rfl
set_option maxRecDepth 65536 in
theorem w_room : about1.hasRoom e0.platform room_1 = true :=
  launch0.hasRoom_least _ room_1 (by decide +kernel) (by decide +kernel) (by decide +kernel) (by decide +kernel) (by decide +kernel) (by decide +kernel)
theorem allAtoms_all (ts : List Jvm.Cond) (a : Array Jvm.Value) (st : Jvm.State) : (allAtoms ts).before a st = ts.all (fun c => c.before a st) := by
  induction ts with
  | nil => rfl
  | cons c t ih =>
    show (Jvm.Cond.and c (allAtoms t)).before a st = _
    rw [Jvm.Cond.before_and, ih, List.all_cons]
def words1 : List Jvm.Cond := Jvm.Cond.code x code maxLocals ret :: tables_1
/-- a 'code' word, met by the world's own term for the bytes: nothing is compared byte by byte -/
theorem code_word {y : MethodName} {bytes : ByteArray} {mx : Nat} {rt : Option FieldType} {a : Array Value} {s : State} {m : MethodId} {meth : Method} {c : Code} (h1 : s.methodNamed? y = some m) (h2 : s.vm.method? m = some meth) (h3 : meth.code = some c) (h4 : c.code = bytes)
    (h5 : (c.maxLocals == mx && c.exceptionTable.isEmpty && decide (c.maxStack ≤ mostOperands) && decide (meth.sig.returnType = rt) && !meth.locks && decide (parseMethodDescriptor y.desc = some meth.sig)) = true) : (Jvm.Cond.code y bytes mx rt).before a s = true := by
  simp only [Bool.and_eq_true, beq_iff_eq, Bool.not_eq_true', decide_eq_true_eq] at h5
  obtain ⟨⟨⟨⟨⟨g1, g2⟩, g3⟩, g4⟩, g5⟩, g6⟩ := h5
  simp [Cond.before, Cond.holds, Cond.value, h1, h2, h3, h4, g1, g2, g3, g4, g5, g6]
def isCode : Jvm.Cond → Bool
  | .code _ _ _ _ => true
  | _ => false
theorem all_split {L : List Jvm.Cond} {P : Jvm.Cond → Bool} (h1 : L.all (fun c => isCode c || P c) = true) (h2 : ∀ c ∈ L.filter isCode, P c = true) : L.all P = true := by
  refine List.all_eq_true.mpr fun c hc => ?_
  have h := List.all_eq_true.mp h1 c hc
  rcases Bool.eq_false_or_eq_true (isCode c) with hi | hi
  · exact h2 c (List.mem_filter.mpr ⟨hc, hi⟩)
  · simpa [hi] using h
set_option maxRecDepth 65536 in
theorem w_c0 : (Jvm.Cond.code x code maxLocals ret).before args0 about1 = true := code_word (m := ⟨1, 1⟩) (meth := k1m1) (c := k1c1) (by decide +kernel) rfl rfl rfl (by decide +kernel)
set_option maxRecDepth 65536 in
theorem w_c1 : (Jvm.Cond.code ({ cls := "mortisebind/runtime/XmlCharacters", name := "isNameStart", desc := "(C)Z" } : Jvm.MethodName) prog_47_method_7_code (1 : Nat) (Option.some Jvm.ClassFile.FieldType.boolean)).before args0 about1 = true := code_word (m := ⟨2, 1⟩) (meth := k2m1) (c := k2c1) (by decide +kernel) rfl rfl rfl (by decide +kernel)
set_option maxRecDepth 65536 in
theorem w_c2 : (Jvm.Cond.code ({ cls := "mortisebind/runtime/XmlCharactersIsNameStartPinLaw", name := "expected", desc := "(I)Z" } : Jvm.MethodName) method_3_code (1 : Nat) (Option.some Jvm.ClassFile.FieldType.boolean)).before args0 about1 = true := code_word (m := ⟨1, 2⟩) (meth := k1m2) (c := k1c2) (by decide +kernel) rfl rfl rfl (by decide +kernel)
set_option maxRecDepth 65536 in
theorem w_c3 : (Jvm.Cond.code ({ cls := "mortisebind/runtime/XmlCharactersIsNameStartPinLaw", name := "excluded", desc := "(I)Z" } : Jvm.MethodName) method_4_code (1 : Nat) (Option.some Jvm.ClassFile.FieldType.boolean)).before args0 about1 = true := code_word (m := ⟨1, 3⟩) (meth := k1m3) (c := k1c3) (by decide +kernel) rfl rfl rfl (by decide +kernel)
def codes1 : List Jvm.Cond := [Jvm.Cond.code x code maxLocals ret, Jvm.Cond.code ({ cls := "mortisebind/runtime/XmlCharacters", name := "isNameStart", desc := "(C)Z" } : Jvm.MethodName) prog_47_method_7_code (1 : Nat) (Option.some Jvm.ClassFile.FieldType.boolean), Jvm.Cond.code ({ cls := "mortisebind/runtime/XmlCharactersIsNameStartPinLaw", name := "expected", desc := "(I)Z" } : Jvm.MethodName) method_3_code (1 : Nat) (Option.some Jvm.ClassFile.FieldType.boolean), Jvm.Cond.code ({ cls := "mortisebind/runtime/XmlCharactersIsNameStartPinLaw", name := "excluded", desc := "(I)Z" } : Jvm.MethodName) method_4_code (1 : Nat) (Option.some Jvm.ClassFile.FieldType.boolean)]
set_option maxRecDepth 65536 in
theorem codes_eq : words1.filter isCode = codes1 := rfl
theorem w_codes : ∀ c ∈ words1.filter isCode, c.before args0 about1 = true := by
  rw [codes_eq]
  intro c hc
  simp only [codes1, List.mem_cons, List.not_mem_nil, or_false] at hc
  rcases hc with rfl | rfl | rfl | rfl
  · exact w_c0
  · exact w_c1
  · exact w_c2
  · exact w_c3
set_option maxRecDepth 65536 in
theorem w_t1 : (words1.take 24).all (fun c => isCode c || c.before args0 about1) = true := by decide +kernel
set_option maxRecDepth 65536 in
theorem w_t2 : (words1.drop 24).all (fun c => isCode c || c.before args0 about1) = true := by decide +kernel
theorem w_tables : (allAtoms (Jvm.Cond.code x code maxLocals ret :: tables_1)).before args0 about1 = true := by
  rw [allAtoms_all]
  show words1.all (fun c => c.before args0 about1) = true
  refine all_split ?_ w_codes
  rw [← List.take_append_drop 24 words1, List.all_append, w_t1, w_t2]
  rfl
set_option maxRecDepth 65536 in
theorem w_case : (Jvm.Cond.and given_1 narrow_1).before args0 about1 = true := by decide +kernel
theorem w_applies : (headSpec (Jvm.Cond.code x code maxLocals ret :: tables_1) room_1).applies x e0.platform about1 = true :=
  (Spec.applies_iff w_frames).mpr ⟨w_running, w_runnable, w_alone, w_named, w_hears, w_ripe, w_room, w_tables⟩
theorem atStart : AtStart classFile x code maxLocals ret World_1 tables_1 room_1 Calls_1 rest_1 Pre_1 launch0 p0 e0 about1 theMethod args0 below0 :=
  ⟨lists_1, trivial, launch0.admits_env _ _ _, launch0.least_env, fairChoices_fair.cas, fairChoices_fair.clock, w_frames, w_args, w_heap, w_applies, trivial, trivial, w_case⟩
end start1
theorem witness_1 : WitnessClaimed_1 := ⟨start1.p0, start1.e0, start1.about1, start1.theMethod, start1.args0, start1.below0, start1.atStart⟩
end Jvm.Pilot.@@N@@
