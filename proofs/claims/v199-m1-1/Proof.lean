import JvmDerived
import JvmDerived.Pilot.@@N@@Statement
import JvmDerived.Pilot.@@N@@Code
set_option linter.unusedVariables false
set_option linter.unusedSimpArgs false
@@BLOCK:NumsL.lean.txt@@
@@BLOCK:Masks.lean.txt@@
namespace Jvm.RoadKit
open Sem ClassFile Op Lib Jvm.Stand Jvm.Free Jvm.LawKit
section New
variable {p : Program} {l : Launch} {e : Env} {R : Room} {s : State} {m : MethodId} {args : Array Value} {below : List Frame} {meth : Method} {c : Code} {T : State} {locs : List Loc} {cells slots : Nat}
theorem retI (X : Stand p l e R s m args below meth c T locs cells slots) (hx : p.tables.exec = Jvm.exec) {pc : Nat} {Ls : Array Slot} {z : Int32} {rest : List Value} (hret : meth.sig.returnType = some .int) (hd : decode c.code pc = .ok (.ireturn, 1)) {fs : List Frame}
    (hl : ∀ (f : JFrame) (acts : List Action), f.method = m → f.locked = none → f.entered = [] → (doReturn e (T.setTop f) acts (some (.int z))).1 = T.setFrames fs) : Steps p.tables e below (T.setTop (mkF m pc Ls (.int z :: rest))) (T.setFrames fs) := by
  have hm' : T.vm.method? m = some meth := X.method'
  have hn : narrow .int (.int z) = .int z := rfl
  show Steps p.tables e below (T.setTop { method := m, pc := pc, locals := Ls, stack := _ :: rest, locked := none }) _
  jvm_step X.here [X.here.top, hx, hd, hm', hret, hn]
  first | (intro acts; rw [hl _ acts rfl rfl rfl]) | rw [hl _ _ rfl rfl rfl]
  exact Steps.refl _
end New
end Jvm.RoadKit
namespace Jvm.Pilot.@@N@@
open Jvm Jvm.ClassFile Sem Op Lib Jvm.Free Jvm.Stand Jvm.LawKit Jvm.RoadKit Bundle Jvm.Pilot.@@N@@.Jvm.D
/-- a body that returns r, makes and writes nothing -/
def QN (h0 : Heap) (n0 : Nat) (v : Option Value) (h : Heap) (L : List Loc) : Prop := v = none ∧ Fr n0 L ∧ h = h0
def QP (r : Value) (h0 : Heap) (n0 : Nat) (v : Option Value) (h : Heap) (L : List Loc) : Prop := v = some r ∧ Fr n0 L ∧ h = h0
theorem own_d_jdk_29_method_69_code_0 : decode jdk_29_method_69_code 0 = .ok (.iload_n 0, 1) := by decide +kernel
theorem own_d_jdk_29_method_69_code_1 : decode jdk_29_method_69_code 1 = .ok (.iload_n 1, 1) := by decide +kernel
theorem own_d_jdk_29_method_69_code_2 : decode jdk_29_method_69_code 2 = .ok (.if_icmp .gt 7, 3) := by decide +kernel
theorem own_d_jdk_29_method_69_code_9 : decode jdk_29_method_69_code 9 = .ok (.iload_n 1, 1) := by decide +kernel
theorem own_d_jdk_29_method_69_code_10 : decode jdk_29_method_69_code 10 = .ok (.ireturn, 1) := by decide +kernel
theorem own_d_jdk_29_method_69_code_5 : decode jdk_29_method_69_code 5 = .ok (.iload_n 0, 1) := by decide +kernel
theorem own_d_jdk_29_method_69_code_6 : decode jdk_29_method_69_code 6 = .ok (.goto 4, 3) := by decide +kernel
theorem own_d_jdk_29_method_65_code_0 : decode jdk_29_method_65_code 0 = .ok (.iload_n 0, 1) := by decide +kernel
theorem own_d_jdk_29_method_65_code_1 : decode jdk_29_method_65_code 1 = .ok (.iload_n 1, 1) := by decide +kernel
theorem own_d_jdk_29_method_65_code_2 : decode jdk_29_method_65_code 2 = .ok (.if_icmp .lt 7, 3) := by decide +kernel
theorem own_d_jdk_29_method_65_code_9 : decode jdk_29_method_65_code 9 = .ok (.iload_n 1, 1) := by decide +kernel
theorem own_d_jdk_29_method_65_code_10 : decode jdk_29_method_65_code 10 = .ok (.ireturn, 1) := by decide +kernel
theorem own_d_jdk_29_method_65_code_5 : decode jdk_29_method_65_code 5 = .ok (.iload_n 0, 1) := by decide +kernel
theorem own_d_jdk_29_method_65_code_6 : decode jdk_29_method_65_code 6 = .ok (.goto 4, 3) := by decide +kernel
theorem own_d_jdk_29_method_70_code_0 : decode jdk_29_method_70_code 0 = .ok (.lload_n 0, 1) := by decide +kernel
theorem own_d_jdk_29_method_70_code_1 : decode jdk_29_method_70_code 1 = .ok (.lload_n 2, 1) := by decide +kernel
theorem own_d_jdk_29_method_70_code_2 : decode jdk_29_method_70_code 2 = .ok (.lcmp, 1) := by decide +kernel
theorem own_d_jdk_29_method_70_code_3 : decode jdk_29_method_70_code 3 = .ok (.ifCond .gt 7, 3) := by decide +kernel
theorem own_d_jdk_29_method_70_code_10 : decode jdk_29_method_70_code 10 = .ok (.lload_n 2, 1) := by decide +kernel
theorem own_d_jdk_29_method_70_code_11 : decode jdk_29_method_70_code 11 = .ok (.lreturn, 1) := by decide +kernel
theorem own_d_jdk_29_method_70_code_6 : decode jdk_29_method_70_code 6 = .ok (.lload_n 0, 1) := by decide +kernel
theorem own_d_jdk_29_method_70_code_7 : decode jdk_29_method_70_code 7 = .ok (.goto 4, 3) := by decide +kernel
theorem own_d_prog_35_method_1_code_0 : decode prog_35_method_1_code 0 = .ok (.aload_n 0, 1) := by decide +kernel
theorem own_d_prog_35_method_1_code_1 : decode prog_35_method_1_code 1 = .ok (.invokespecial 3, 3) := by decide +kernel
theorem own_d_prog_35_method_1_code_4 : decode prog_35_method_1_code 4 = .ok (.lload_n 1, 1) := by decide +kernel
theorem own_d_prog_35_method_1_code_5 : decode prog_35_method_1_code 5 = .ok (.ldc2_w 9, 3) := by decide +kernel
theorem own_d_prog_35_method_1_code_8 : decode prog_35_method_1_code 8 = .ok (.ladd, 1) := by decide +kernel
theorem own_d_prog_35_method_1_code_9 : decode prog_35_method_1_code 9 = .ok (.lconst 1, 1) := by decide +kernel
theorem own_d_prog_35_method_1_code_10 : decode prog_35_method_1_code 10 = .ok (.lsub, 1) := by decide +kernel
theorem own_d_prog_35_method_1_code_11 : decode prog_35_method_1_code 11 = .ok (.getstatic 11, 3) := by decide +kernel
theorem own_d_prog_35_method_1_code_14 : decode prog_35_method_1_code 14 = .ok (.lushr, 1) := by decide +kernel
theorem own_d_prog_35_method_1_code_15 : decode prog_35_method_1_code 15 = .ok (.l2i, 1) := by decide +kernel
theorem own_d_prog_35_method_1_code_16 : decode prog_35_method_1_code 16 = .ok (.istore_n 3, 1) := by decide +kernel
theorem own_d_prog_35_method_1_code_17 : decode prog_35_method_1_code 17 = .ok (.lload_n 1, 1) := by decide +kernel
theorem own_d_prog_35_method_1_code_18 : decode prog_35_method_1_code 18 = .ok (.iload_n 3, 1) := by decide +kernel
theorem own_d_prog_35_method_1_code_19 : decode prog_35_method_1_code 19 = .ok (.iconst 1, 1) := by decide +kernel
theorem own_d_prog_35_method_1_code_20 : decode prog_35_method_1_code 20 = .ok (.isub, 1) := by decide +kernel
theorem own_d_prog_35_method_1_code_21 : decode prog_35_method_1_code 21 = .ok (.i2l, 1) := by decide +kernel
theorem own_d_prog_35_method_1_code_22 : decode prog_35_method_1_code 22 = .ok (.getstatic 11, 3) := by decide +kernel
theorem own_d_prog_35_method_1_code_25 : decode prog_35_method_1_code 25 = .ok (.lshl, 1) := by decide +kernel
theorem own_d_prog_35_method_1_code_26 : decode prog_35_method_1_code 26 = .ok (.lsub, 1) := by decide +kernel
theorem own_d_prog_35_method_1_code_27 : decode prog_35_method_1_code 27 = .ok (.l2i, 1) := by decide +kernel
theorem own_d_prog_35_method_1_code_28 : decode prog_35_method_1_code 28 = .ok (.istore 4, 2) := by decide +kernel
theorem own_d_prog_35_method_1_code_30 : decode prog_35_method_1_code 30 = .ok (.aload_n 0, 1) := by decide +kernel
theorem own_d_prog_35_method_1_code_31 : decode prog_35_method_1_code 31 = .ok (.lload_n 1, 1) := by decide +kernel
theorem own_d_prog_35_method_1_code_32 : decode prog_35_method_1_code 32 = .ok (.putfield 15, 3) := by decide +kernel
theorem own_d_prog_35_method_1_code_35 : decode prog_35_method_1_code 35 = .ok (.aload_n 0, 1) := by decide +kernel
theorem own_d_prog_35_method_1_code_36 : decode prog_35_method_1_code 36 = .ok (.iload_n 3, 1) := by decide +kernel
theorem own_d_prog_35_method_1_code_37 : decode prog_35_method_1_code 37 = .ok (.anewarray 19, 3) := by decide +kernel
theorem own_d_prog_35_method_1_code_40 : decode prog_35_method_1_code 40 = .ok (.putfield 21, 3) := by decide +kernel
theorem own_d_prog_35_method_1_code_43 : decode prog_35_method_1_code 43 = .ok (.aload_n 0, 1) := by decide +kernel
theorem own_d_prog_35_method_1_code_44 : decode prog_35_method_1_code 44 = .ok (.iload_n 3, 1) := by decide +kernel
theorem own_d_prog_35_method_1_code_45 : decode prog_35_method_1_code 45 = .ok (.anewarray 19, 3) := by decide +kernel
theorem own_d_prog_35_method_1_code_48 : decode prog_35_method_1_code 48 = .ok (.putfield 25, 3) := by decide +kernel
theorem own_d_prog_35_method_1_code_51 : decode prog_35_method_1_code 51 = .ok (.aload_n 0, 1) := by decide +kernel
theorem own_d_prog_35_method_1_code_52 : decode prog_35_method_1_code 52 = .ok (.iconst 2, 1) := by decide +kernel
theorem own_d_prog_35_method_1_code_53 : decode prog_35_method_1_code 53 = .ok (.iload_n 3, 1) := by decide +kernel
theorem own_d_prog_35_method_1_code_54 : decode prog_35_method_1_code 54 = .ok (.imul, 1) := by decide +kernel
theorem own_d_prog_35_method_1_code_55 : decode prog_35_method_1_code 55 = .ok (.iload 4, 2) := by decide +kernel
theorem own_d_prog_35_method_1_code_57 : decode prog_35_method_1_code 57 = .ok (.sipush 32764, 3) := by decide +kernel
theorem own_d_prog_35_method_1_code_60 : decode prog_35_method_1_code 60 = .ok (.if_icmp .le 7, 3) := by decide +kernel
theorem own_d_prog_35_method_1_code_63 : decode prog_35_method_1_code 63 = .ok (.iconst 0, 1) := by decide +kernel
theorem own_d_prog_35_method_1_code_64 : decode prog_35_method_1_code 64 = .ok (.goto 4, 3) := by decide +kernel
theorem own_d_prog_35_method_1_code_68 : decode prog_35_method_1_code 68 = .ok (.isub, 1) := by decide +kernel
theorem own_d_prog_35_method_1_code_69 : decode prog_35_method_1_code 69 = .ok (.anewarray 19, 3) := by decide +kernel
theorem own_d_prog_35_method_1_code_72 : decode prog_35_method_1_code 72 = .ok (.putfield 28, 3) := by decide +kernel
theorem own_d_prog_35_method_1_code_75 : decode prog_35_method_1_code 75 = .ok (.iconst 0, 1) := by decide +kernel
theorem own_d_prog_35_method_1_code_76 : decode prog_35_method_1_code 76 = .ok (.istore 5, 2) := by decide +kernel
theorem own_d_prog_35_method_1_code_78 : decode prog_35_method_1_code 78 = .ok (.iload 5, 2) := by decide +kernel
theorem own_d_prog_35_method_1_code_80 : decode prog_35_method_1_code 80 = .ok (.iload_n 3, 1) := by decide +kernel
theorem own_d_prog_35_method_1_code_81 : decode prog_35_method_1_code 81 = .ok (.if_icmp .ge 104, 3) := by decide +kernel
theorem own_d_prog_35_method_1_code_84 : decode prog_35_method_1_code 84 = .ok (.iload 5, 2) := by decide +kernel
theorem own_d_prog_35_method_1_code_86 : decode prog_35_method_1_code 86 = .ok (.iload_n 3, 1) := by decide +kernel
theorem own_d_prog_35_method_1_code_87 : decode prog_35_method_1_code 87 = .ok (.iconst 1, 1) := by decide +kernel
theorem own_d_prog_35_method_1_code_88 : decode prog_35_method_1_code 88 = .ok (.isub, 1) := by decide +kernel
theorem own_d_prog_35_method_1_code_89 : decode prog_35_method_1_code 89 = .ok (.if_icmp .ge 8, 3) := by decide +kernel
theorem own_d_prog_35_method_1_code_97 : decode prog_35_method_1_code 97 = .ok (.iload 4, 2) := by decide +kernel
theorem own_d_prog_35_method_1_code_99 : decode prog_35_method_1_code 99 = .ok (.istore 6, 2) := by decide +kernel
theorem own_d_prog_35_method_1_code_101 : decode prog_35_method_1_code 101 = .ok (.aload_n 0, 1) := by decide +kernel
theorem own_d_prog_35_method_1_code_102 : decode prog_35_method_1_code 102 = .ok (.getfield 21, 3) := by decide +kernel
theorem own_d_prog_35_method_1_code_105 : decode prog_35_method_1_code 105 = .ok (.iload 5, 2) := by decide +kernel
theorem own_d_prog_35_method_1_code_107 : decode prog_35_method_1_code 107 = .ok (.iload 6, 2) := by decide +kernel
theorem own_d_prog_35_method_1_code_109 : decode prog_35_method_1_code 109 = .ok (.sipush 32764, 3) := by decide +kernel
theorem own_d_prog_35_method_1_code_112 : decode prog_35_method_1_code 112 = .ok (.invokestatic 32, 3) := by decide +kernel
theorem own_d_prog_35_method_1_code_115 : decode prog_35_method_1_code 115 = .ok (.newarray .long, 2) := by decide +kernel
theorem own_d_prog_35_method_1_code_117 : decode prog_35_method_1_code 117 = .ok (.aastore, 1) := by decide +kernel
theorem own_d_prog_35_method_1_code_118 : decode prog_35_method_1_code 118 = .ok (.aload_n 0, 1) := by decide +kernel
theorem own_d_prog_35_method_1_code_119 : decode prog_35_method_1_code 119 = .ok (.getfield 25, 3) := by decide +kernel
theorem own_d_prog_35_method_1_code_122 : decode prog_35_method_1_code 122 = .ok (.iload 5, 2) := by decide +kernel
theorem own_d_prog_35_method_1_code_124 : decode prog_35_method_1_code 124 = .ok (.iload 6, 2) := by decide +kernel
theorem own_d_prog_35_method_1_code_126 : decode prog_35_method_1_code 126 = .ok (.sipush 32764, 3) := by decide +kernel
theorem own_d_prog_35_method_1_code_129 : decode prog_35_method_1_code 129 = .ok (.isub, 1) := by decide +kernel
theorem own_d_prog_35_method_1_code_130 : decode prog_35_method_1_code 130 = .ok (.iconst 0, 1) := by decide +kernel
theorem own_d_prog_35_method_1_code_131 : decode prog_35_method_1_code 131 = .ok (.invokestatic 38, 3) := by decide +kernel
theorem own_d_prog_35_method_1_code_134 : decode prog_35_method_1_code 134 = .ok (.newarray .long, 2) := by decide +kernel
theorem own_d_prog_35_method_1_code_136 : decode prog_35_method_1_code 136 = .ok (.aastore, 1) := by decide +kernel
theorem own_d_prog_35_method_1_code_137 : decode prog_35_method_1_code 137 = .ok (.aload_n 0, 1) := by decide +kernel
theorem own_d_prog_35_method_1_code_138 : decode prog_35_method_1_code 138 = .ok (.getfield 28, 3) := by decide +kernel
theorem own_d_prog_35_method_1_code_141 : decode prog_35_method_1_code 141 = .ok (.iconst 2, 1) := by decide +kernel
theorem own_d_prog_35_method_1_code_142 : decode prog_35_method_1_code 142 = .ok (.iload 5, 2) := by decide +kernel
theorem own_d_prog_35_method_1_code_144 : decode prog_35_method_1_code 144 = .ok (.imul, 1) := by decide +kernel
theorem own_d_prog_35_method_1_code_145 : decode prog_35_method_1_code 145 = .ok (.aload_n 0, 1) := by decide +kernel
theorem own_d_prog_35_method_1_code_146 : decode prog_35_method_1_code 146 = .ok (.getfield 21, 3) := by decide +kernel
theorem own_d_prog_35_method_1_code_149 : decode prog_35_method_1_code 149 = .ok (.iload 5, 2) := by decide +kernel
theorem own_d_prog_35_method_1_code_151 : decode prog_35_method_1_code 151 = .ok (.aaload, 1) := by decide +kernel
theorem own_d_prog_35_method_1_code_152 : decode prog_35_method_1_code 152 = .ok (.aastore, 1) := by decide +kernel
theorem own_d_prog_35_method_1_code_153 : decode prog_35_method_1_code 153 = .ok (.iload 6, 2) := by decide +kernel
theorem own_d_prog_35_method_1_code_155 : decode prog_35_method_1_code 155 = .ok (.sipush 32764, 3) := by decide +kernel
theorem own_d_prog_35_method_1_code_158 : decode prog_35_method_1_code 158 = .ok (.if_icmp .le 21, 3) := by decide +kernel
theorem own_d_prog_35_method_1_code_161 : decode prog_35_method_1_code 161 = .ok (.aload_n 0, 1) := by decide +kernel
theorem own_d_prog_35_method_1_code_162 : decode prog_35_method_1_code 162 = .ok (.getfield 28, 3) := by decide +kernel
theorem own_d_prog_35_method_1_code_165 : decode prog_35_method_1_code 165 = .ok (.iconst 2, 1) := by decide +kernel
theorem own_d_prog_35_method_1_code_166 : decode prog_35_method_1_code 166 = .ok (.iload 5, 2) := by decide +kernel
theorem own_d_prog_35_method_1_code_168 : decode prog_35_method_1_code 168 = .ok (.imul, 1) := by decide +kernel
theorem own_d_prog_35_method_1_code_169 : decode prog_35_method_1_code 169 = .ok (.iconst 1, 1) := by decide +kernel
theorem own_d_prog_35_method_1_code_170 : decode prog_35_method_1_code 170 = .ok (.iadd, 1) := by decide +kernel
theorem own_d_prog_35_method_1_code_171 : decode prog_35_method_1_code 171 = .ok (.aload_n 0, 1) := by decide +kernel
theorem own_d_prog_35_method_1_code_172 : decode prog_35_method_1_code 172 = .ok (.getfield 25, 3) := by decide +kernel
theorem own_d_prog_35_method_1_code_175 : decode prog_35_method_1_code 175 = .ok (.iload 5, 2) := by decide +kernel
theorem own_d_prog_35_method_1_code_177 : decode prog_35_method_1_code 177 = .ok (.aaload, 1) := by decide +kernel
theorem own_d_prog_35_method_1_code_178 : decode prog_35_method_1_code 178 = .ok (.aastore, 1) := by decide +kernel
theorem own_d_prog_35_method_1_code_179 : decode prog_35_method_1_code 179 = .ok (.iinc 5 1, 3) := by decide +kernel
theorem own_d_prog_35_method_1_code_182 : decode prog_35_method_1_code 182 = .ok (.goto (-104), 3) := by decide +kernel
theorem own_d_prog_35_method_1_code_185 : decode prog_35_method_1_code 185 = .ok (.return_, 1) := by decide +kernel
theorem own_d_prog_35_method_1_code_67 : decode prog_35_method_1_code 67 = .ok (.iconst 1, 1) := by decide +kernel
theorem own_d_prog_35_method_1_code_92 : decode prog_35_method_1_code 92 = .ok (.ldc 31, 2) := by decide +kernel
theorem own_d_prog_35_method_1_code_94 : decode prog_35_method_1_code 94 = .ok (.goto 5, 3) := by decide +kernel
theorem own_d_prog_35_method_3_code_0 : decode prog_35_method_3_code 0 = .ok (.aload_n 0, 1) := by decide +kernel
theorem own_d_prog_35_method_3_code_1 : decode prog_35_method_3_code 1 = .ok (.getfield 28, 3) := by decide +kernel
theorem own_d_prog_35_method_3_code_4 : decode prog_35_method_3_code 4 = .ok (.areturn, 1) := by decide +kernel
theorem own_d_prog_35_method_5_code_0 : decode prog_35_method_5_code 0 = .ok (.lload_n 1, 1) := by decide +kernel
theorem own_d_prog_35_method_5_code_1 : decode prog_35_method_5_code 1 = .ok (.getstatic 11, 3) := by decide +kernel
theorem own_d_prog_35_method_5_code_4 : decode prog_35_method_5_code 4 = .ok (.lushr, 1) := by decide +kernel
theorem own_d_prog_35_method_5_code_5 : decode prog_35_method_5_code 5 = .ok (.l2i, 1) := by decide +kernel
theorem own_d_prog_35_method_5_code_6 : decode prog_35_method_5_code 6 = .ok (.istore_n 3, 1) := by decide +kernel
theorem own_d_prog_35_method_5_code_7 : decode prog_35_method_5_code 7 = .ok (.lload_n 1, 1) := by decide +kernel
theorem own_d_prog_35_method_5_code_8 : decode prog_35_method_5_code 8 = .ok (.l2i, 1) := by decide +kernel
theorem own_d_prog_35_method_5_code_9 : decode prog_35_method_5_code 9 = .ok (.sipush 32767, 3) := by decide +kernel
theorem own_d_prog_35_method_5_code_12 : decode prog_35_method_5_code 12 = .ok (.iand, 1) := by decide +kernel
theorem own_d_prog_35_method_5_code_13 : decode prog_35_method_5_code 13 = .ok (.sipush 32764, 3) := by decide +kernel
theorem own_d_prog_35_method_5_code_16 : decode prog_35_method_5_code 16 = .ok (.if_icmp .ge 7, 3) := by decide +kernel
theorem own_d_prog_35_method_5_code_19 : decode prog_35_method_5_code 19 = .ok (.iconst 1, 1) := by decide +kernel
theorem own_d_prog_35_method_5_code_20 : decode prog_35_method_5_code 20 = .ok (.goto 4, 3) := by decide +kernel
theorem own_d_prog_35_method_5_code_24 : decode prog_35_method_5_code 24 = .ok (.istore 4, 2) := by decide +kernel
theorem own_d_prog_35_method_5_code_26 : decode prog_35_method_5_code 26 = .ok (.iload 4, 2) := by decide +kernel
theorem own_d_prog_35_method_5_code_28 : decode prog_35_method_5_code 28 = .ok (.ifCond .eq 12, 3) := by decide +kernel
theorem own_d_prog_35_method_5_code_31 : decode prog_35_method_5_code 31 = .ok (.aload_n 0, 1) := by decide +kernel
theorem own_d_prog_35_method_5_code_32 : decode prog_35_method_5_code 32 = .ok (.getfield 21, 3) := by decide +kernel
theorem own_d_prog_35_method_5_code_35 : decode prog_35_method_5_code 35 = .ok (.iload_n 3, 1) := by decide +kernel
theorem own_d_prog_35_method_5_code_36 : decode prog_35_method_5_code 36 = .ok (.aaload, 1) := by decide +kernel
theorem own_d_prog_35_method_5_code_37 : decode prog_35_method_5_code 37 = .ok (.goto 9, 3) := by decide +kernel
theorem own_d_prog_35_method_5_code_46 : decode prog_35_method_5_code 46 = .ok (.areturn, 1) := by decide +kernel
theorem own_d_prog_35_method_5_code_23 : decode prog_35_method_5_code 23 = .ok (.iconst 0, 1) := by decide +kernel
theorem own_d_prog_35_method_5_code_40 : decode prog_35_method_5_code 40 = .ok (.aload_n 0, 1) := by decide +kernel
theorem own_d_prog_35_method_5_code_41 : decode prog_35_method_5_code 41 = .ok (.getfield 25, 3) := by decide +kernel
theorem own_d_prog_35_method_5_code_44 : decode prog_35_method_5_code 44 = .ok (.iload_n 3, 1) := by decide +kernel
theorem own_d_prog_35_method_5_code_45 : decode prog_35_method_5_code 45 = .ok (.aaload, 1) := by decide +kernel
theorem own_pd0 : parseMethodDescriptor "(II)I" = some ⟨[.int, .int], some .int⟩ := by decide +kernel
theorem own_pd1 : parseMethodDescriptor "(J)V" = some ⟨[.long], none⟩ := by decide +kernel
theorem own_pd2 : parseMethodDescriptor "()[[J" = some ⟨[], some (.array (.array .long))⟩ := by decide +kernel
theorem own_pd3 : parseMethodDescriptor "(J)[J" = some ⟨[.long], some (.array .long)⟩ := by decide +kernel
theorem own_pd4 : parseMethodDescriptor "(JJ)J" = some ⟨[.long, .long], some .long⟩ := by decide +kernel
theorem own_pn0 : plainName "com/example/elderflower/elderflower/PagedWords" = true := by first | (simp [plainName, overriddenIn]; done) | decide +kernel
theorem own_pn1 : plainName "com/example/elderflower/elderflower/PagedWordsArrayOfPinLaw" = true := by first | (simp [plainName, overriddenIn]; done) | decide +kernel
def QL (n0 : Nat) (v : Option Value) (h : Heap) (L : List Loc) : Prop := v = some (.int 1) ∧ Fr n0 L
theorem own_lc0 {a b : Int64} (h : a = b) : lcmpW a b = 0 := (lcW a b).trans ((lc_eq a b).mpr h)
theorem own_lcn {a b : Int64} (h : ¬ a = b) : ¬ lcmpW a b = 0 := fun q => h ((lc_eq a b).mp ((lcW a b).symm.trans q))
theorem own_lclt {a b : Int64} (h : a < b) : lcmpW a b < 0 := (lcW a b).symm ▸ (lc_lt a b).mpr h
theorem own_lcge {a b : Int64} (h : ¬ a < b) : ¬ lcmpW a b < 0 := fun q => h ((lc_lt a b).mp ((lcW a b) ▸ q))
theorem own_lcgt {a b : Int64} (h : b < a) : 0 < lcmpW a b := (lcW a b).symm ▸ (lc_gt a b).mpr h
theorem own_lcle {a b : Int64} (h : ¬ b < a) : ¬ 0 < lcmpW a b := fun q => h ((lc_gt a b).mp ((lcW a b) ▸ q))
theorem own_lrem_eq (x y : Int64) : x - (x / y) * y = x % y := by
  apply Int64.toInt_inj.mp
  have h1 := Int64.le_toInt (x % y)
  have h2 := Int64.toInt_lt (x % y)
  rw [Int64.toInt_sub, Int64.toInt_mul, Int64.toInt_div, Int.bmod_mul_bmod, Int.sub_bmod_bmod, Int.mul_comm (x.toInt.tdiv y.toInt), ← Int.tmod_def, ← Int64.toInt_mod]
  exact Int.bmod_eq_of_le_mul_two (by omega) (by omega)
theorem own_lremM {p : Program} {l : Launch} {e : Env} {R : Room} {s : State} {m : MethodId} {args : Array Value} {below : List Frame} {meth : Method} {c : Code} {T : State} {locs : List Loc} {cells slots : Nat} {g : JFrame} {target : State} (X : Stand p l e R s m args below meth c T locs cells slots) (hx : p.tables.exec = Jvm.exec) (hg : g.method = m) {x y : Int64} {rest : List Value} (hd : decode c.code g.pc = .ok (.lrem, 1)) (hs : g.stack = .long y :: .long x :: rest) (hy : y ≠ 0)
    (hr : Steps p.tables e below (T.setTop { g with pc := g.pc + 1, stack := .long (x % y) :: rest }) target) : Steps p.tables e below (T.setTop g) target :=
  XS.lrem X.here hx hg hd hs hy (by rw [own_lrem_eq]; exact hr)
theorem own_mulc {x c : Int32} {k : Int} (hc : c.toInt = k) (h1 : -2 ^ 31 ≤ k * x.toInt) (h2 : k * x.toInt < 2 ^ 31) : (c * x).toInt = k * x.toInt := by
  rw [Jvm.Kit.i32_mul (by rw [hc]; exact h1) (by rw [hc]; exact h2), hc]
theorem own_mulcL {x c : Int64} {k : Int} (hc : c.toInt = k) (h1 : -2 ^ 63 ≤ k * x.toInt) (h2 : k * x.toInt < 2 ^ 63) : (c * x).toInt = k * x.toInt := by
  rw [Jvm.Kit.i64_mul (by rw [hc]; exact h1) (by rw [hc]; exact h2), hc]
theorem own_addc {x c : Int32} {k : Int} (hc : c.toInt = k) (h1 : -2 ^ 31 ≤ k + x.toInt) (h2 : k + x.toInt < 2 ^ 31) : (c + x).toInt = k + x.toInt := by
  rw [Jvm.Kit.i32_add (by rw [hc]; exact h1) (by rw [hc]; exact h2), hc]
theorem own_caddr {x c : Int32} {k : Int} (hc : c.toInt = k) (h1 : -2 ^ 31 ≤ x.toInt + k) (h2 : x.toInt + k < 2 ^ 31) : (x + c).toInt = x.toInt + k := by
  rw [Jvm.Kit.i32_add (by rw [hc]; exact h1) (by rw [hc]; exact h2), hc]
theorem own_intv {args : Array Value} {Z : State} {t : Term} {k : Int32} (h : (Cond.eq t (.int k)).value args Z none Z [] = some true) : t.eval args Z none [] Z = some (.int k) := by
  obtain ⟨x, y, e1, e2, -, k2⟩ := cmp_v (Or.inl h)
  have e2' : some (Value.int k) = some y := e2
  cases e2'
  obtain ⟨z, rfl⟩ := k2
  have q := gotT (Cond.eq_ints e1 (Term.int_eval k)) h
  rw [← q]; exact e1
theorem own_fldI {args : Array Value} {Z : State} {t : Term} {C n d : String} {k : Int32} {a : Addr} (ht : t.eval args Z none [] Z = some (.ref a)) (h : (Cond.eq (.field t C n d) (.int k)).value args Z none Z [] = some true) : Fld Z Z.heap a C n d (.int k) :=
  Fld.start ((fld_at ht).symm.trans (own_intv h))
theorem own_cellE {Z : State} {h : Heap} {a : Addr} {C : String} (F : Exa Z h a C) : ∃ cl : Cell, h[a]? = some cl ∧ cl.vm.isStatics = false := by obtain ⟨c, _, h1, -, -, h4, -⟩ := F; exact ⟨c, h1, h4⟩
theorem own_cellV {Z : State} {h : Heap} {a : Addr} {k : ClassId} {ty : FieldType} {n : Int32} {vs : List Value} {d : Value} (F : Arv Z h a k ty n vs d) : ∃ cl : Cell, h[a]? = some cl ∧ cl.vm.isStatics = false := by obtain ⟨c, A, -⟩ := F; exact ⟨c, A.1, A.plain⟩
theorem own_sta_keep {Z : State} {h h' : Heap} {C n d : String} {v : Value} {ws : List Addr} (F : Sta Z h C n d v) (K : Keep h h' ws) (q : ∀ x ∈ ws, ∃ cl : Cell, h[x]? = some cl ∧ cl.vm.isStatics = false) : Sta Z h' C n d v := by
  obtain ⟨cf, i, k, f, st, cell, h1, h2, h3, h4, h5, h6, h7⟩ := F
  refine ⟨cf, i, k, f, st, cell, h1, h2, h3, h4, K.2.1 st cell h5 (fun hm => ?_), h6, h7⟩
  obtain ⟨cl, e1, e2⟩ := q st hm
  cases e1.symm.trans h5
  rw [e2] at h6; cases h6
/-- an array of which the length alone is known -/
def own_Len (Z : State) (h : Heap) (a : Addr) (ty : FieldType) (n : Int32) : Prop := ∃ c : Cell, Arr Z h a c ty ∧ c.slots.size = n.toNatClampNeg ∧ ¬ n < 0
theorem own_Len.lt {Z : State} {h : Heap} {a : Addr} {ty : FieldType} {n : Int32} (F : own_Len Z h a ty n) : a < h.size := by obtain ⟨c, A, -⟩ := F; exact A.lt
theorem own_Len.ext {Z : State} {h h' : Heap} {a : Addr} {ty : FieldType} {n : Int32} (F : own_Len Z h a ty n) (E : Ext h h') : own_Len Z h' a ty n := by obtain ⟨c, A, r⟩ := F; exact ⟨c, A.ext E, r⟩
theorem own_Len.other {Z : State} {h h' : Heap} {a b : Addr} {ty : FieldType} {n : Int32} {sl : Nat} {v : Value} (F : own_Len Z h b ty n) (W : Wr h h' a sl v) (q : b ≠ a) : own_Len Z h' b ty n := by obtain ⟨c, A, r⟩ := F; exact ⟨c, A.other W q, r⟩
theorem own_Len.keep {Z : State} {h h' : Heap} {a : Addr} {ty : FieldType} {n : Int32} {ws : List Addr} (F : own_Len Z h a ty n) (K : Keep h h' ws) (q : a ∉ ws) : own_Len Z h' a ty n := by obtain ⟨c, A, r⟩ := F; exact ⟨c, ⟨K.2.1 a c A.1 q, A.2⟩, r⟩
theorem own_Len.of {Z : State} {h : Heap} {a : Addr} {k : ClassId} {ty : FieldType} {n : Int32} {hs : List (Int32 × Value)} {vs : List Value} {d : Value} (F : Arh Z h a k ty n hs vs d) : own_Len Z h a ty n := by obtain ⟨c, A, -, S, M, -⟩ := F; exact ⟨c, A, S, M⟩
theorem own_len_start {args : Array Value} {Z : State} {t : Term} {ty : FieldType} {k : Int32} {a : Addr} (ht : t.eval args Z none [] Z = some (.ref a)) (ha : (Cond.arrayOf t ty).value args Z none Z [] = some true) (h : (Cond.eq (.length t) (.int k)).value args Z none Z [] = some true) (hk : ¬ k < 0) : own_Len Z Z.heap a ty k := by
  obtain ⟨c, A⟩ := Arr.start ht ha
  have hA : Z.arrayAt? a = some c := A.fin (Vm.Alike.refl _)
  have hv := own_intv h
  have hq : c.slots.size < 2147483648 ∧ c.slots.size.toInt32 = k := by
    simp only [Term.eval, ht, Option.bind_eq_bind, Option.bind_some, hA] at hv
    split at hv
    · rename_i hn; exact ⟨hn, by simpa using hv⟩
    · cases hv
  refine ⟨c, A, ?_, hk⟩
  rw [← hq.2]
  show _ = (c.slots.size.toInt32.toInt).toNat
  rw [len_toInt hq.1]; simp
theorem own_lt1 {n : Nat} (h : n < 1) : n = 0 := by omega
theorem own_lt2 {n : Nat} (h : n < 2) : n = 0 ∨ n = 1 := by omega
theorem own_lt3 {n : Nat} (h : n < 3) : n = 0 ∨ n = 1 ∨ n = 2 := by omega
theorem own_lt4 {n : Nat} (h : n < 4) : n = 0 ∨ n = 1 ∨ n = 2 ∨ n = 3 := by omega
def own_min (a b : Int32) : Int32 := if b < a then b else a
def own_max (a b : Int32) : Int32 := if a < b then b else a
def own_minL (a b : Int64) : Int64 := if b < a then b else a
def own_LW (lw : Int32) : Prop := 1 ≤ lw.toInt ∧ lw.toInt ≤ 32768
def own_lenH (p : Nat) (lw : Int32) (pg : Nat) : Int32 := if pg + 1 < p then (32764 : Int32) else own_min lw (32764 : Int32)
def own_lenT (p : Nat) (lw : Int32) (pg : Nat) : Int32 := if pg + 1 < p then (4 : Int32) else own_max (lw - (32764 : Int32)) (0 : Int32)
def own_SZ (sz : Int64) : Prop := 1 ≤ sz.toInt ∧ sz.toInt ≤ 98307
def own_WO (wo sz : Int64) : Prop := 0 ≤ wo.toInt ∧ wo.toInt < sz.toInt
theorem own_minI (lw : Int32) : (own_min lw (32764 : Int32)).toInt = if 32764 < lw.toInt then 32764 else lw.toInt := by
  have t : (32764 : Int32).toInt = 32764 := by decide
  unfold own_min
  by_cases h : (32764 : Int32) < lw
  · have h' := h; rw [Int32.lt_iff_toInt_lt, t] at h'; rw [if_pos h, if_pos h', t]
  · have h' := h; rw [Int32.lt_iff_toInt_lt, t] at h'; rw [if_neg h, if_neg h']
theorem own_maxI {lw : Int32} (hl : own_LW lw) : (own_max (lw - (32764 : Int32)) (0 : Int32)).toInt = if 32764 < lw.toInt then lw.toInt - 32764 else 0 := by
  have t : (32764 : Int32).toInt = 32764 := by decide
  have t0 : (0 : Int32).toInt = 0 := by decide
  obtain ⟨h1, h2⟩ := hl
  have e : (lw - (32764 : Int32)).toInt = lw.toInt - 32764 := by rw [Jvm.Kit.i32_sub (by rw [t]; omega) (by rw [t]; omega), t]
  unfold own_max
  by_cases h : (lw - (32764 : Int32)) < (0 : Int32)
  · have h' := h; rw [Int32.lt_iff_toInt_lt, e, t0] at h'; rw [if_pos h, if_neg (by omega), t0]
  · have h' := h; rw [Int32.lt_iff_toInt_lt, e, t0] at h'; rw [if_neg h, e]; split <;> omega
theorem own_neg {x : Int32} (h : 0 ≤ x.toInt) : ¬ x < 0 := by
  have t0 : (0 : Int32).toInt = 0 := by decide
  rw [Int32.lt_iff_toInt_lt, t0]; omega
theorem own_hneg {lw : Int32} (hl : own_LW lw) : ¬ own_min lw (32764 : Int32) < 0 := own_neg (by rw [own_minI]; have := hl.1; split <;> omega)
theorem own_hcap {lw : Int32} (hl : own_LW lw) : (own_min lw (32764 : Int32)).toNatClampNeg ≤ 32764 := by
  show (own_min lw (32764 : Int32)).toInt.toNat ≤ 32764
  rw [own_minI]; split <;> omega
theorem own_tneg {lw : Int32} (hl : own_LW lw) : ¬ own_max (lw - (32764 : Int32)) (0 : Int32) < 0 := own_neg (by rw [own_maxI hl]; split <;> omega)
theorem own_tcap {lw : Int32} (hl : own_LW lw) : (own_max (lw - (32764 : Int32)) (0 : Int32)).toNatClampNeg ≤ 4 := by
  show (own_max (lw - (32764 : Int32)) (0 : Int32)).toInt.toNat ≤ 4
  have := hl.2
  rw [own_maxI hl]; split <;> omega
theorem own_of32 {x : Int32} {n : Nat} (h : x.toInt = n) (hn : n < 2147483648) : x = Int32.ofNat n := by
  apply Int32.toInt_inj.mp
  rw [h, Int32.toInt_ofNat_of_lt (by omega)]
theorem own_of64 {x : Int64} {n : Nat} (h : x.toInt = n) (hn : n < 2147483648) : x.toInt32 = Int32.ofNat n := by
  apply own_of32 _ hn
  rw [Jvm.Kit.i32_of_i64 (by omega) (by omega), h]
theorem own_pages {sz : Int64} (h : own_SZ sz) : ∃ (p : Nat) (lw : Int32), (p = 1 ∨ p = 2 ∨ p = 3 ∨ p = 4) ∧ (((((sz + (32768 : Int64)) - (1 : Int64)).toUInt64 >>> ((15 : Int32) &&& 0x3f).toInt64.toUInt64).toInt64).toInt32) = Int32.ofNat p ∧ (sz - Int64.ofNat ((p - 1) * 32768)).toInt32 = lw ∧ own_LW lw ∧ sz.toInt = ((p : Int) - 1) * 32768 + lw.toInt := by
  obtain ⟨h1, h2⟩ := h
  have t : (32768 : Int64).toInt = 32768 := by decide
  have t1 : (1 : Int64).toInt = 1 := by decide
  have e1 : (sz + (32768 : Int64)).toInt = sz.toInt + 32768 := by rw [Jvm.Kit.i64_add (by rw [t]; omega) (by rw [t]; omega), t]
  have e2 : ((sz + (32768 : Int64)) - (1 : Int64)).toInt = sz.toInt + 32767 := by rw [Jvm.Kit.i64_sub (by rw [e1, t1]; omega) (by rw [e1, t1]; omega), e1, t1]; omega
  have e3 : ((((sz + (32768 : Int64)) - (1 : Int64)).toUInt64 >>> ((15 : Int32) &&& 0x3f).toInt64.toUInt64).toInt64).toInt = (sz.toInt + 32767) / 2 ^ 15 := by
    rw [Jvm.Kit.i64_lushr (Jvm.Kit.i64_nonneg.mpr (by rw [e2]; omega)) (k := 15) (by decide +kernel) (by decide), e2]
  obtain ⟨p, hp⟩ : ∃ p : Nat, ((sz.toInt + 32767) / 32768) = (p : Int) := ⟨((sz.toInt + 32767) / 32768).toNat, by omega⟩
  have hp4 : p = 1 ∨ p = 2 ∨ p = 3 ∨ p = 4 := by omega
  have eo : (Int64.ofNat ((p - 1) * 32768)).toInt = (((p - 1) * 32768 : Nat) : Int) := Int64.toInt_ofNat_of_lt (by omega)
  have e4 : (sz - Int64.ofNat ((p - 1) * 32768)).toInt = sz.toInt - ((p : Int) - 1) * 32768 := by
    rw [Jvm.Kit.i64_sub (by rw [eo]; omega) (by rw [eo]; omega), eo]; omega
  have e5 : (sz - Int64.ofNat ((p - 1) * 32768)).toInt32.toInt = sz.toInt - ((p : Int) - 1) * 32768 := by rw [Jvm.Kit.i32_of_i64 (by rw [e4]; omega) (by rw [e4]; omega), e4]
  refine ⟨p, _, hp4, own_of64 (by rw [e3]; omega) (by omega), rfl, ⟨by rw [e5]; omega, by rw [e5]; omega⟩, by rw [e5]; omega⟩
theorem own_divm (w : Int64) (h0 : 0 ≤ w.toInt) : (w / (32768 : Int64)).toInt = w.toInt / 32768 ∧ (w % (32768 : Int64)).toInt = w.toInt % 32768 := by
  have t : (32768 : Int64).toInt = 32768 := by decide
  constructor
  · rw [Jvm.Kit.i64_div (by omega), t, Int.tdiv_eq_ediv_of_nonneg h0]
  · rw [Int64.toInt_mod, t, Int.tmod_eq_emod_of_nonneg h0]
theorem own_low (w : Int64) : (w.toInt32 &&& (32767 : Int32)).toInt = w.toInt % 32768 := by
  have e : (w.toInt32 &&& (32767 : Int32)).toInt = w.toInt32.toInt % 2 ^ 15 := Jvm.Kit.i32_mask w.toInt32 32767 (k := 15) (by decide) (by decide)
  rw [e, Int64.toInt_toInt32, Int.bmod_def]
  split <;> omega
theorem own_lowlt {w : Int64} (h0 : 0 ≤ w.toInt) : (w.toInt32 &&& (32767 : Int32)) < (32764 : Int32) ↔ (w % (32768 : Int64)) < (32764 : Int64) := by
  have t : (32764 : Int32).toInt = 32764 := by decide
  have t' : (32764 : Int64).toInt = 32764 := by decide
  rw [Int32.lt_iff_toInt_lt, Int64.lt_iff_toInt_lt, own_low, (own_divm w h0).2, t, t']
theorem own_wpg {wo : Int64} {n : Nat} (h0 : 0 ≤ wo.toInt) (h1 : wo.toInt < 98307) (hn : wo.toInt / 32768 = n) : (((wo.toUInt64 >>> ((15 : Int32) &&& 0x3f).toInt64.toUInt64).toInt64).toInt32) = Int32.ofNat n := by
  have e : ((wo.toUInt64 >>> ((15 : Int32) &&& 0x3f).toInt64.toUInt64).toInt64).toInt = wo.toInt / 2 ^ 15 := Jvm.Kit.i64_lushr (Jvm.Kit.i64_nonneg.mpr h0) (k := 15) (by decide +kernel) (by decide)
  exact own_of64 (by rw [e]; omega) (by omega)
theorem own_inb {pg p : Nat} (h : pg < p) (hp : p ≤ 1000) : ¬ Int32.ofNat pg < 0 ∧ Int32.ofNat pg < Int32.ofNat p := by
  have a : (Int32.ofNat pg).toInt = pg := Int32.toInt_ofNat_of_lt (by omega)
  have b : (Int32.ofNat p).toInt = p := Int32.toInt_ofNat_of_lt (by omega)
  exact ⟨own_neg (by rw [a]; omega), by rw [Int32.lt_iff_toInt_lt, a, b]; omega⟩
theorem own_nat {n : Nat} (h : n ≤ 1000) : (Int32.ofNat n).toNatClampNeg = n := by
  show (Int32.ofNat n).toInt.toNat = n
  rw [Int32.toInt_ofNat_of_lt (by omega)]; omega
theorem own_inbN {k : Nat} {nn : Int32} (h : (k : Int) < nn.toInt) (hk : k ≤ 1000) : ¬ Int32.ofNat k < 0 ∧ Int32.ofNat k < nn := by
  have a : (Int32.ofNat k).toInt = k := Int32.toInt_ofNat_of_lt (by omega)
  exact ⟨own_neg (by rw [a]; omega), by rw [Int32.lt_iff_toInt_lt, a]; exact h⟩
theorem own_sznz {sz : Int64} (h : own_SZ sz) : sz ≠ 0 := fun q => by
  have := h.1; rw [q] at this; exact absurd this (by decide)
theorem own_rem {x sz : Int64} (hx : 0 ≤ x.toInt) (hs : own_SZ sz) : own_WO (x % sz) sz := by
  have h1 := hs.1
  have e : (x % sz).toInt = x.toInt % sz.toInt := by rw [Int64.toInt_mod, Int.tmod_eq_emod_of_nonneg hx]
  unfold own_WO; rw [e]
  exact ⟨Int.emod_nonneg _ (by omega), Int.emod_lt_of_pos _ (by omega)⟩
theorem own_max63 (x : Int64) : 0 ≤ (x &&& (9223372036854775807 : Int64)).toInt := by
  have e : (x &&& (9223372036854775807 : Int64)).toInt = x.toInt % 2 ^ 63 := Jvm.Kit.i64_mask x 9223372036854775807 (k := 63) (by decide) (by decide)
  omega
theorem own_sz2 (x : Int64) : own_SZ ((1 : Int64) + ((x &&& (9223372036854775807 : Int64)) % (98304 : Int64))) := by
  have h := own_max63 x
  generalize (x &&& (9223372036854775807 : Int64)) = y at *
  have t : (98304 : Int64).toInt = 98304 := by decide
  have t1 : (1 : Int64).toInt = 1 := by decide
  have e : (y % (98304 : Int64)).toInt = y.toInt % 98304 := by rw [Int64.toInt_mod, t, Int.tmod_eq_emod_of_nonneg h]
  have e2 : ((1 : Int64) + (y % (98304 : Int64))).toInt = 1 + y.toInt % 98304 := by rw [Jvm.Kit.i64_add (by rw [t1, e]; omega) (by rw [t1, e]; omega), t1, e]
  unfold own_SZ; rw [e2]; omega
theorem own_edge (x : Int32) (h : 0 ≤ x.toInt) (z : Int64) (hz : 0 ≤ z.toInt ∧ z.toInt ≤ 15) : own_SZ (((((x % (3 : Int32)).toInt64) * (32768 : Int64)) + (32756 : Int64)) + z) := by
  have t3 : (3 : Int32).toInt = 3 := by decide
  have t : (32768 : Int64).toInt = 32768 := by decide
  have t' : (32756 : Int64).toInt = 32756 := by decide
  have d : (x % (3 : Int32)).toInt = x.toInt % 3 := by rw [Int32.toInt_mod, t3, Int.tmod_eq_emod_of_nonneg h]
  have d' : ((x % (3 : Int32)).toInt64).toInt = x.toInt % 3 := (Jvm.Kit.i64_of_i32 _).trans d
  have e1 : (((x % (3 : Int32)).toInt64) * (32768 : Int64)).toInt = (x.toInt % 3) * 32768 := by rw [Jvm.Kit.i64_mul (by rw [d', t]; omega) (by rw [d', t]; omega), d', t]
  have e2 : ((((x % (3 : Int32)).toInt64) * (32768 : Int64)) + (32756 : Int64)).toInt = (x.toInt % 3) * 32768 + 32756 := by rw [Jvm.Kit.i64_add (by rw [e1, t']; omega) (by rw [e1, t']; omega), e1, t']
  have e3 : (((((x % (3 : Int32)).toInt64) * (32768 : Int64)) + (32756 : Int64)) + z).toInt = (x.toInt % 3) * 32768 + 32756 + z.toInt := by rw [Jvm.Kit.i64_add (by rw [e2]; omega) (by rw [e2]; omega), e2]
  unfold own_SZ; rw [e3]; omega
theorem own_15i (y : Int32) : 0 ≤ ((y &&& (15 : Int32)).toInt64).toInt ∧ ((y &&& (15 : Int32)).toInt64).toInt ≤ 15 := by
  have e : (y &&& (15 : Int32)).toInt = y.toInt % 2 ^ 4 := Jvm.Kit.i32_mask y 15 (k := 4) (by decide) (by decide)
  rw [Jvm.Kit.i64_of_i32, e]; omega
theorem own_15l (y : Int64) : 0 ≤ (y &&& (15 : Int64)).toInt ∧ (y &&& (15 : Int64)).toInt ≤ 15 := by
  have e : (y &&& (15 : Int64)).toInt = y.toInt % 2 ^ 4 := Jvm.Kit.i64_mask y 15 (k := 4) (by decide) (by decide)
  omega
theorem own_31 (y : Int32) : 0 ≤ (y &&& (2147483647 : Int32)).toInt := by
  have e : (y &&& (2147483647 : Int32)).toInt = y.toInt % 2 ^ 31 := Jvm.Kit.i32_mask y 2147483647 (k := 31) (by decide) (by decide)
  omega
theorem own_ush1 (m : Int32) : 0 ≤ ((m.toUInt32 >>> ((1 : Int32) &&& 31).toUInt32).toInt32).toInt := Jvm.Kit.i32_nonneg.mp (Jvm.Kit.i32_iushr_nonneg m (k := 1) (by decide +kernel) (by decide) (by decide))
theorem own_minLI (a b : Int64) : (own_minL a b).toInt = if b.toInt < a.toInt then b.toInt else a.toInt := by
  unfold own_minL
  by_cases h : b < a
  · rw [if_pos h, if_pos (Int64.lt_iff_toInt_lt.mp h)]
  · rw [if_neg h, if_neg fun q => h (Int64.lt_iff_toInt_lt.mpr q)]
theorem own_pw {sz pa : Int64} {p n : Nat} {lw : Int32} (hs : own_SZ sz) (he : sz.toInt = ((p : Int) - 1) * 32768 + lw.toInt) (hl : own_LW lw) (hp : p ≤ 4) (hn : n < p) (ha : pa.toInt = n) : (own_minL (32768 : Int64) (sz - (pa * (32768 : Int64)))).toInt = if n + 1 < p then 32768 else lw.toInt := by
  obtain ⟨s1, s2⟩ := hs
  obtain ⟨l1, l2⟩ := hl
  have t : (32768 : Int64).toInt = 32768 := by decide
  have e1 : (pa * (32768 : Int64)).toInt = n * 32768 := by rw [Jvm.Kit.i64_mul (by rw [ha, t]; omega) (by rw [ha, t]; omega), ha, t]
  have e2 : (sz - (pa * (32768 : Int64))).toInt = sz.toInt - n * 32768 := by rw [Jvm.Kit.i64_sub (by rw [e1]; omega) (by rw [e1]; omega), e1]
  rw [own_minLI, e2, t]
  by_cases q : n + 1 < p
  · rw [if_pos q, if_neg (by omega)]
  · rw [if_neg q]; split <;> omega
theorem own_expH {pw : Int64} {p n : Nat} {lw : Int32} (hl : own_LW lw) (h : pw.toInt = if n + 1 < p then 32768 else lw.toInt) : (own_lenH p lw n).toInt64 = own_minL pw (32764 : Int64) ∧ (0 : Int64) < own_minL pw (32764 : Int64) := by
  obtain ⟨l1, l2⟩ := hl
  have t : (32764 : Int64).toInt = 32764 := by decide
  have t0 : (0 : Int64).toInt = 0 := by decide
  have t' : (32764 : Int32).toInt = 32764 := by decide
  have e : (own_minL pw (32764 : Int64)).toInt = if n + 1 < p then 32764 else (if 32764 < lw.toInt then 32764 else lw.toInt) := by
    rw [own_minLI, t, h]
    by_cases q : n + 1 < p
    · simp only [if_pos q]; split <;> omega
    · simp only [if_neg q]
  constructor
  · apply Int64.toInt_inj.mp
    rw [Jvm.Kit.i64_of_i32, e, own_lenH]
    by_cases q : n + 1 < p
    · rw [if_pos q, if_pos q, t']
    · rw [if_neg q, if_neg q, own_minI]
  · rw [Int64.lt_iff_toInt_lt, e, t0]
    split
    · omega
    · split <;> omega
theorem own_expT {pw : Int64} {p n : Nat} {lw : Int32} (hl : own_LW lw) (h : pw.toInt = if n + 1 < p then 32768 else lw.toInt) (hq : n + 1 < p ∨ (32764 : Int32) < lw) : (own_lenT p lw n).toInt64 = pw - (32764 : Int64) ∧ (0 : Int64) < pw - (32764 : Int64) := by
  have hl' := hl
  obtain ⟨l1, l2⟩ := hl
  have t : (32764 : Int64).toInt = 32764 := by decide
  have t0 : (0 : Int64).toInt = 0 := by decide
  have t' : (32764 : Int32).toInt = 32764 := by decide
  have t4 : (4 : Int32).toInt = 4 := by decide
  rw [Int32.lt_iff_toInt_lt, t'] at hq
  have hb : pw.toInt ≤ 32768 ∧ 32764 < pw.toInt := by rw [h]; split <;> omega
  have e : (pw - (32764 : Int64)).toInt = pw.toInt - 32764 := by rw [Jvm.Kit.i64_sub (by rw [t]; omega) (by rw [t]; omega), t]
  constructor
  · apply Int64.toInt_inj.mp
    rw [Jvm.Kit.i64_of_i32, e, h, own_lenT]
    by_cases q : n + 1 < p
    · rw [if_pos q, if_pos q, t4]; omega
    · rw [if_neg q, if_neg q, own_maxI hl', if_pos (by omega)]
  · rw [Int64.lt_iff_toInt_lt, e, t0]; omega
theorem own_2p {pa : Int64} {n : Nat} (ha : pa.toInt = n) (hn : n ≤ 4) : ((2 : Int64) * pa).toInt = ((2 * n : Nat) : Int) ∧ (((2 : Int64) * pa) + (1 : Int64)).toInt = ((2 * n + 1 : Nat) : Int) := by
  have t : (2 : Int64).toInt = 2 := by decide
  have t1 : (1 : Int64).toInt = 1 := by decide
  have e : ((2 : Int64) * pa).toInt = 2 * (n : Int) := by rw [own_mulcL t (by rw [ha]; omega) (by rw [ha]; omega), ha]
  refine ⟨by rw [e]; omega, ?_⟩
  rw [Jvm.Kit.i64_add (by rw [e, t1]; omega) (by rw [e, t1]; omega), e, t1]; omega
theorem own_ltL {x : Int64} {nn : Int32} {k : Nat} (h : x.toInt = k) (hk : (k : Int) < nn.toInt) : x < nn.toInt64 := by
  rw [Int64.lt_iff_toInt_lt, Jvm.Kit.i64_of_i32, h]; exact hk
/-- the array class cA is over the component class named C -/
def own_Ovr (Z : State) (cA : ClassId) (C : String) : Prop := ∃ (k : Class) (comp : ClassId) (ty : FieldType), Z.vm.classes[cA]? = some k ∧ k.kind = .array comp ty ∧ Z.vm.findClass C = some comp
theorem own_over {a0 : Array Value} {Z : State} {t : FieldType} (h : (Cond.arrayOver (.array t)).before a0 Z = true) :
    ∃ comp cA kA, Z.vm.findClass (FieldType.array t).toString = some comp ∧ (Z.vm.classes.findIdx? fun x => match x.kind with | .array component _ => component == comp | _ => false) = some cA ∧ Z.vm.classes[cA]? = some kA ∧ kA.kind = .array comp (.array t) := by
  obtain ⟨comp, c', k', h1, h2, h3, -⟩ := Cond.arrayOver_specA h
  have h0 := h
  simp only [Cond.before, Cond.holds, Cond.value, beq_iff_eq, h1, Option.bind_some, Option.bind_eq_some_iff, Option.map_eq_some_iff] at h0
  obtain ⟨c, hi, k, hk, hb⟩ := h0
  refine ⟨comp, c, k, h1, hi, hk, ?_⟩
  have hp := (Array.findIdx?_eq_some_iff_getElem.mp hi).2.1
  rw [(Array.getElem?_eq_some_iff.mp hk).2] at hp
  revert hb hp
  cases k.kind <;> simp
  intro q _ r; exact ⟨r, q⟩
section OwnNew
variable {p : Program} {l : Launch} {e : Env} {R : Room} {s : State} {m : MethodId} {args : Array Value} {below : List Frame} {meth : Method} {c : Code} {T : State} {locs : List Loc} {cells slots : Nat} {Z : State} {a0 : Array Value} {h : Heap}
theorem own_newRA (X : Stand p l e R s m args below meth c T locs cells slots) (hx : p.tables.exec = Jvm.exec) (hZ : Z.Warmed39 s.vm) {own C : String} {index : Nat} {t : FieldType} (hown : s.vm.findClass own = some m.cls) (w1 : (Cond.classLink own index C).before a0 Z = true) (w2 : (Cond.arrayOver (.array t)).before a0 Z = true) (hC : (FieldType.array t).toString = C)
    (eT : T.heap = h) {g : JFrame} (hg : g.method = m) (hd : decode c.code g.pc = .ok (.anewarray index, 3)) {n : Int32} {rest : List Value} (hs : g.stack = .int n :: rest) (hn : ¬ n < 0) {cap : Nat} (hcap : n.toNatClampNeg ≤ cap) (hb : cap * 8 ≤ 536870912) (hc : cells + 1 ≤ R.cells) (hl : slots + cap ≤ R.slots) :
    ∃ T' h' cA, Stand p l e R s m args below meth c T' locs (cells + 1) (slots + cap) ∧ T'.heap = h' ∧ Ext h h' ∧ Arr Z h' h.size (newA cA (.array t) n) (.array t) ∧ own_Ovr Z cA C ∧
      ∀ target, Steps p.tables e below (T'.setTop { g with pc := g.pc + 3, stack := .ref h.size :: rest }) target → Steps p.tables e below (T.setTop g) target := by
  subst hg eT
  obtain ⟨comp, cA, kA, hcomp, hidx, hkA, hkind⟩ := own_over w2
  rw [hC] at hcomp
  have hcompS : s.vm.findClass C = some comp := by rw [hZ.alike.findClass]; exact hcomp
  obtain ⟨cc, hfcc, hcl⟩ := Cond.classLink_spec hown (mv (args := args) hZ w1) e.platform (by rw [X.admits.platform])
  cases hcompS.symm.trans hfcc
  obtain ⟨q1, q2, q3⟩ := State.classEntry (e := e) X.warmed hcl
  generalize T.vm.noted g.method.cls index (.cls comp) = vm₁ at q1 q2 q3
  obtain ⟨kA', hkA', hk'⟩ := hZ.alike.2.2 _ _ hkA
  obtain ⟨kB, hkB, hk''⟩ := q2.alike.2.2 _ _ hkA'
  obtain ⟨kc, hkc, -⟩ := Vm.findClass_spec hcompS
  obtain ⟨kd, hkd, -⟩ := q2.alike.2.2 _ _ hkc
  have hkindB : kB.kind = .array comp (.array t) := by rw [hk'', hk']; exact hkind
  have hidxS : (s.vm.classes.findIdx? fun x => match x.kind with | .array component _ => component == comp | _ => false) = some cA := by
    rw [hZ.alike.findIdx?_eqK _ (fun _ => rfl)]; exact hidx
  have hidxB : (vm₁.classes.findIdx? fun x => match x.kind with | .array component _ => component == comp | _ => false) = some cA := by
    rw [q2.alike.findIdx?_eqK _ (fun _ => rfl)]; exact hidxS
  have r1 : ¬ n.toNatClampNeg > e.platform.arrayLengthLimit := by rw [Launch.admits_arrayLengthLimit X.admits]; omega
  have r2 : ¬ n.toNatClampNeg * componentBytes (.array t) > e.platform.maxHeapBytes := by
    rw [Launch.admits_maxHeapBytes X.admits]; show ¬ n.toNatClampNeg * 4 > 536870912; omega
  have Y := (X.noted q2).pushed { cls := cA, slots := Array.replicate n.toNatClampNeg .null, vm := .none }
  obtain ⟨u1, u2⟩ := X.roomAbove hc (show slots + n.toNatClampNeg ≤ R.slots by omega)
  have Y' : Stand p l e R s g.method args below meth c ((T.setVm vm₁).pushCell { cls := cA, slots := Array.replicate n.toNatClampNeg .null, vm := .none }) locs (cells + 1) (slots + n.toNatClampNeg) := by simpa using Y
  refine ⟨_, _, cA, Y'.more (Nat.le_refl _) (by omega), rfl, ext_of fun a q => Array.getElem?_push_lt q |>.trans (Array.getElem?_eq_getElem q).symm, ⟨by show (T.heap.push _)[T.heap.size]? = _; simp [newA, defaultValue], ⟨by simp [newA], kA, hkA, comp, hkind⟩, by simp [newA]⟩, ⟨kA, comp, _, hkA, hkind, hcomp⟩, fun target hrest => ?_⟩
  jvm_step X.here [hx, hd, anewarray.wp_cold (e := e) (s := T) (f := g) X.here.top q1 q3,
    anewarray.wp_ready (e := e) (s := T.setVm vm₁) (f := g) (kc := kd) (k := kB) (type := .array t) X.here.top q3 hkd hidxB hkB hkindB rfl hs hn r1 r2]
  exact ⟨by show T.heap.size < _; omega, by show T.slotsUsed + _ ≤ _; exact u2, hrest⟩
theorem own_stoA {a y : Addr} {cl : Cell} {ty : FieldType} {C : String} {k : ClassId} (A : Arr Z h a cl ty) (q : cl.cls = k) (O : own_Ovr Z k C) (I : Ins Z h y C true) : Sto Z h a (.ref y) := by
  subst q
  obtain ⟨ka, comp, t, o1, o2, o3⟩ := O
  obtain ⟨cv, cT, i1, i2, i3⟩ := I
  cases o3.symm.trans i2
  simp only [Bool.and_eq_true, Bool.not_eq_true'] at i3
  obtain ⟨kc, w⟩ := Vm.classAt_of_findClass o3
  obtain ⟨kv, w2⟩ := Vm.classAt_of_assignable i3.2 ⟨kc, w⟩
  exact Or.inr ⟨cl, cv, ka, kv, kc, _, _, y, A.1, o1, o2, w, rfl, i1, i3.1, w2, i3.2⟩
end OwnNew
theorem own_ef_rmMin (m : MethodId) (y0 : Int32) (y1 : Int32) : entryFrame m #[(.int y0), (.int y1)] 2 = mkF m 0 #[.val (.int y0), .val (.int y1)] [] := by first | (simp [entryFrame, mkF, argsToLocals, Value.category]; done) | rfl
set_option maxRecDepth 65536 in
set_option maxHeartbeats 40000000 in
theorem rmMin (l : Launch) (Z : State) (a0 : Array Value) (hw : ∀ d ∈ tables_1, d.before a0 Z = true) (ws : List Jvm.Cond) (p1 p2 r : Int32) (h0 : Heap) (n0 : Nat) (Z0 : n0 ≤ h0.size) (hres : own_min p1 p2 = r) :
    MetFree l (⟨"java/lang/Math", "min", "(II)I"⟩ : MethodName) (head1 (Jvm.Cond.code (⟨"java/lang/Math", "min", "(II)I"⟩ : MethodName) jdk_29_method_69_code 2 (some .int) :: ws) ({ frames := 0, cells := 0, slots := 0, locals := 0 } : Room)) (fun ar_ U => ar_ = #[(.int p1), (.int p2)] ∧ Z.Warmed39 U.vm ∧ U.heap = h0) (fun _ _ _ _ _ => True) (fun _ U o U' => ∃ v L, o = .returned v ∧ QP (.int r) h0 n0 v U'.heap L ∧ FrameEnd U o U' L ({ frames := 0, cells := 0, slots := 0, locals := 0 } : Room).cells ({ frames := 0, cells := 0, slots := 0, locals := 0 } : Room).slots) := by
  refine MetFree.of_bodySF (Jvm.Free.JP.mathPlain rfl (by decide +kernel)) hisR ?_
  intro p e s m args below meth c s₁ Bd hml0 hP hK
  obtain ⟨rfl, hZ, hh⟩ := hP
  have hx := Bd.exec
  have hby := Bd.bytes
  have hml : c.maxLocals = 2 := hml0
  have hown : s.vm.findClass "java/lang/Math" = some m.cls := findClass_of_methodNamed Bd.named
  have hnm := (name_of_methodNamed Bd.named Bd.method).1
  have X0 : Stand p l e ({ frames := 0, cells := 0, slots := 0, locals := 0 } : Room) s m #[(.int p1), (.int p2)] below meth c s₁ [] 0 0 := Stand.of_body Bd
  have e0 : s₁.heap = h0 := by rw [← hh, Bd.state]; rfl
  have N0 := Fr.nil n0
  have pre0 : ∀ tt_, Steps p.tables e below (s₁.setTop (mkF m 0 #[.val (.int p1), .val (.int p2)] [])) tt_ → Steps p.tables e below (s₁.setTop (entryFrame m #[(.int p1), (.int p2)] 2)) tt_ := fun tt_ kk_ => castTop (own_ef_rmMin m p1 p2) kk_
  have pre1 : ∀ tt_, Steps p.tables e below (s₁.setTop (mkF m 2 #[.val (.int p1), .val (.int p2)] [(.int p2), (.int p1)])) tt_ → Steps p.tables e below (s₁.setTop (entryFrame m #[(.int p1), (.int p2)] 2)) tt_ := fun tt_ kk_ => pre0 tt_ (by
    show Steps p.tables e below (s₁.setTop (mkF m 0 #[.val (.int p1), .val (.int p2)] [])) _
    refine XS.iloadN X0.here hx rfl (hb hby own_d_jdk_29_method_69_code_0) rfl ?_
    refine XS.iloadN X0.here hx rfl (hb hby own_d_jdk_29_method_69_code_1) rfl ?_
    exact kk_)
  by_cases hc : p2 < p1
  · have pre2 : ∀ tt_, Steps p.tables e below (s₁.setTop (mkF m 10 #[.val (.int p1), .val (.int p2)] [(.int p2)])) tt_ → Steps p.tables e below (s₁.setTop (entryFrame m #[(.int p1), (.int p2)] 2)) tt_ := fun tt_ kk_ => pre1 tt_ (by
      show Steps p.tables e below (s₁.setTop (mkF m 2 #[.val (.int p1), .val (.int p2)] [(.int p2), (.int p1)])) _
      refine XS.icmpYes X0.here hx rfl (pc0 := 2) (pc' := 9) rfl (hb hby own_d_jdk_29_method_69_code_2) rfl (tlt (hc : p2 < p1)).2.2.1 (by decide) (by decide) ?_
      refine XS.iloadN X0.here hx rfl (hb hby own_d_jdk_29_method_69_code_9) rfl ?_
      exact kk_)
    obtain ⟨fs, hr, hrun, hended, hW, hsame⟩ := X0.leave (v := some (.int p2)) (fun h => by rw [Bd.returns] at h; cases h)
    refine ⟨_, _, pre2 _ ?_, hrun, hended, _, _, rfl, ?_, ⟨_, rfl⟩, hW, hsame.mono (by decide) (by decide)⟩
    · show Steps p.tables e below (s₁.setTop (mkF m 10 #[.val (.int p1), .val (.int p2)] [(.int p2)])) _
      exact retI X0 hx Bd.returns (hb hby own_d_jdk_29_method_69_code_10) hr
    · show QP (.int r) h0 n0 _ s₁.heap _
      rw [e0]
      exact ⟨by rw [← hres, own_min, if_pos hc], N0, rfl⟩
  · have pre3 : ∀ tt_, Steps p.tables e below (s₁.setTop (mkF m 10 #[.val (.int p1), .val (.int p2)] [(.int p1)])) tt_ → Steps p.tables e below (s₁.setTop (entryFrame m #[(.int p1), (.int p2)] 2)) tt_ := fun tt_ kk_ => pre1 tt_ (by
      show Steps p.tables e below (s₁.setTop (mkF m 2 #[.val (.int p1), .val (.int p2)] [(.int p2), (.int p1)])) _
      refine XS.icmpNo X0.here hx rfl (hb hby own_d_jdk_29_method_69_code_2) rfl (flt (hc : ¬ (p2 < p1))).2.2.1 ?_
      show Steps p.tables e below (s₁.setTop (mkF m 5 #[.val (.int p1), .val (.int p2)] [])) _
      refine XS.iloadN X0.here hx rfl (hb hby own_d_jdk_29_method_69_code_5) rfl ?_
      refine XS.goto X0.here hx rfl (pc0 := 6) (pc' := 10) rfl (hb hby own_d_jdk_29_method_69_code_6) (by decide) (by decide) ?_
      exact kk_)
    obtain ⟨fs, hr, hrun, hended, hW, hsame⟩ := X0.leave (v := some (.int p1)) (fun h => by rw [Bd.returns] at h; cases h)
    refine ⟨_, _, pre3 _ ?_, hrun, hended, _, _, rfl, ?_, ⟨_, rfl⟩, hW, hsame.mono (by decide) (by decide)⟩
    · show Steps p.tables e below (s₁.setTop (mkF m 10 #[.val (.int p1), .val (.int p2)] [(.int p1)])) _
      exact retI X0 hx Bd.returns (hb hby own_d_jdk_29_method_69_code_10) hr
    · show QP (.int r) h0 n0 _ s₁.heap _
      rw [e0]
      exact ⟨by rw [← hres, own_min, if_neg hc], N0, rfl⟩
theorem own_ef_rmMax (m : MethodId) (y0 : Int32) (y1 : Int32) : entryFrame m #[(.int y0), (.int y1)] 2 = mkF m 0 #[.val (.int y0), .val (.int y1)] [] := by first | (simp [entryFrame, mkF, argsToLocals, Value.category]; done) | rfl
set_option maxRecDepth 65536 in
set_option maxHeartbeats 40000000 in
theorem rmMax (l : Launch) (Z : State) (a0 : Array Value) (hw : ∀ d ∈ tables_1, d.before a0 Z = true) (ws : List Jvm.Cond) (p1 p2 r : Int32) (h0 : Heap) (n0 : Nat) (Z0 : n0 ≤ h0.size) (hres : own_max p1 p2 = r) :
    MetFree l (⟨"java/lang/Math", "max", "(II)I"⟩ : MethodName) (head1 (Jvm.Cond.code (⟨"java/lang/Math", "max", "(II)I"⟩ : MethodName) jdk_29_method_65_code 2 (some .int) :: ws) ({ frames := 0, cells := 0, slots := 0, locals := 0 } : Room)) (fun ar_ U => ar_ = #[(.int p1), (.int p2)] ∧ Z.Warmed39 U.vm ∧ U.heap = h0) (fun _ _ _ _ _ => True) (fun _ U o U' => ∃ v L, o = .returned v ∧ QP (.int r) h0 n0 v U'.heap L ∧ FrameEnd U o U' L ({ frames := 0, cells := 0, slots := 0, locals := 0 } : Room).cells ({ frames := 0, cells := 0, slots := 0, locals := 0 } : Room).slots) := by
  refine MetFree.of_bodySF (Jvm.Free.JP.mathPlain rfl (by decide +kernel)) hisR ?_
  intro p e s m args below meth c s₁ Bd hml0 hP hK
  obtain ⟨rfl, hZ, hh⟩ := hP
  have hx := Bd.exec
  have hby := Bd.bytes
  have hml : c.maxLocals = 2 := hml0
  have hown : s.vm.findClass "java/lang/Math" = some m.cls := findClass_of_methodNamed Bd.named
  have hnm := (name_of_methodNamed Bd.named Bd.method).1
  have X0 : Stand p l e ({ frames := 0, cells := 0, slots := 0, locals := 0 } : Room) s m #[(.int p1), (.int p2)] below meth c s₁ [] 0 0 := Stand.of_body Bd
  have e0 : s₁.heap = h0 := by rw [← hh, Bd.state]; rfl
  have N0 := Fr.nil n0
  have pre0 : ∀ tt_, Steps p.tables e below (s₁.setTop (mkF m 0 #[.val (.int p1), .val (.int p2)] [])) tt_ → Steps p.tables e below (s₁.setTop (entryFrame m #[(.int p1), (.int p2)] 2)) tt_ := fun tt_ kk_ => castTop (own_ef_rmMax m p1 p2) kk_
  have pre1 : ∀ tt_, Steps p.tables e below (s₁.setTop (mkF m 2 #[.val (.int p1), .val (.int p2)] [(.int p2), (.int p1)])) tt_ → Steps p.tables e below (s₁.setTop (entryFrame m #[(.int p1), (.int p2)] 2)) tt_ := fun tt_ kk_ => pre0 tt_ (by
    show Steps p.tables e below (s₁.setTop (mkF m 0 #[.val (.int p1), .val (.int p2)] [])) _
    refine XS.iloadN X0.here hx rfl (hb hby own_d_jdk_29_method_65_code_0) rfl ?_
    refine XS.iloadN X0.here hx rfl (hb hby own_d_jdk_29_method_65_code_1) rfl ?_
    exact kk_)
  by_cases hc : p1 < p2
  · have pre2 : ∀ tt_, Steps p.tables e below (s₁.setTop (mkF m 10 #[.val (.int p1), .val (.int p2)] [(.int p2)])) tt_ → Steps p.tables e below (s₁.setTop (entryFrame m #[(.int p1), (.int p2)] 2)) tt_ := fun tt_ kk_ => pre1 tt_ (by
      show Steps p.tables e below (s₁.setTop (mkF m 2 #[.val (.int p1), .val (.int p2)] [(.int p2), (.int p1)])) _
      refine XS.icmpYes X0.here hx rfl (pc0 := 2) (pc' := 9) rfl (hb hby own_d_jdk_29_method_65_code_2) rfl (tlt (hc : p1 < p2)).1 (by decide) (by decide) ?_
      refine XS.iloadN X0.here hx rfl (hb hby own_d_jdk_29_method_65_code_9) rfl ?_
      exact kk_)
    obtain ⟨fs, hr, hrun, hended, hW, hsame⟩ := X0.leave (v := some (.int p2)) (fun h => by rw [Bd.returns] at h; cases h)
    refine ⟨_, _, pre2 _ ?_, hrun, hended, _, _, rfl, ?_, ⟨_, rfl⟩, hW, hsame.mono (by decide) (by decide)⟩
    · show Steps p.tables e below (s₁.setTop (mkF m 10 #[.val (.int p1), .val (.int p2)] [(.int p2)])) _
      exact retI X0 hx Bd.returns (hb hby own_d_jdk_29_method_65_code_10) hr
    · show QP (.int r) h0 n0 _ s₁.heap _
      rw [e0]
      exact ⟨by rw [← hres, own_max, if_pos hc], N0, rfl⟩
  · have pre3 : ∀ tt_, Steps p.tables e below (s₁.setTop (mkF m 10 #[.val (.int p1), .val (.int p2)] [(.int p1)])) tt_ → Steps p.tables e below (s₁.setTop (entryFrame m #[(.int p1), (.int p2)] 2)) tt_ := fun tt_ kk_ => pre1 tt_ (by
      show Steps p.tables e below (s₁.setTop (mkF m 2 #[.val (.int p1), .val (.int p2)] [(.int p2), (.int p1)])) _
      refine XS.icmpNo X0.here hx rfl (hb hby own_d_jdk_29_method_65_code_2) rfl (flt (hc : ¬ (p1 < p2))).1 ?_
      show Steps p.tables e below (s₁.setTop (mkF m 5 #[.val (.int p1), .val (.int p2)] [])) _
      refine XS.iloadN X0.here hx rfl (hb hby own_d_jdk_29_method_65_code_5) rfl ?_
      refine XS.goto X0.here hx rfl (pc0 := 6) (pc' := 10) rfl (hb hby own_d_jdk_29_method_65_code_6) (by decide) (by decide) ?_
      exact kk_)
    obtain ⟨fs, hr, hrun, hended, hW, hsame⟩ := X0.leave (v := some (.int p1)) (fun h => by rw [Bd.returns] at h; cases h)
    refine ⟨_, _, pre3 _ ?_, hrun, hended, _, _, rfl, ?_, ⟨_, rfl⟩, hW, hsame.mono (by decide) (by decide)⟩
    · show Steps p.tables e below (s₁.setTop (mkF m 10 #[.val (.int p1), .val (.int p2)] [(.int p1)])) _
      exact retI X0 hx Bd.returns (hb hby own_d_jdk_29_method_65_code_10) hr
    · show QP (.int r) h0 n0 _ s₁.heap _
      rw [e0]
      exact ⟨by rw [← hres, own_max, if_neg hc], N0, rfl⟩
theorem own_ef_rmMinL (m : MethodId) (y0 : Int64) (y1 : Int64) : entryFrame m #[(.long y0), (.long y1)] 4 = mkF m 0 #[.val (.long y0), .second, .val (.long y1), .second] [] := by first | (simp [entryFrame, mkF, argsToLocals, Value.category]; done) | rfl
set_option maxRecDepth 65536 in
set_option maxHeartbeats 40000000 in
theorem rmMinL (l : Launch) (Z : State) (a0 : Array Value) (hw : ∀ d ∈ tables_1, d.before a0 Z = true) (ws : List Jvm.Cond) (p1 p2 r : Int64) (h0 : Heap) (n0 : Nat) (Z0 : n0 ≤ h0.size) (hres : own_minL p1 p2 = r) :
    MetFree l (⟨"java/lang/Math", "min", "(JJ)J"⟩ : MethodName) (head1 (Jvm.Cond.code (⟨"java/lang/Math", "min", "(JJ)J"⟩ : MethodName) jdk_29_method_70_code 4 (some .long) :: ws) ({ frames := 0, cells := 0, slots := 0, locals := 0 } : Room)) (fun ar_ U => ar_ = #[(.long p1), (.long p2)] ∧ Z.Warmed39 U.vm ∧ U.heap = h0) (fun _ _ _ _ _ => True) (fun _ U o U' => ∃ v L, o = .returned v ∧ QP (.long r) h0 n0 v U'.heap L ∧ FrameEnd U o U' L ({ frames := 0, cells := 0, slots := 0, locals := 0 } : Room).cells ({ frames := 0, cells := 0, slots := 0, locals := 0 } : Room).slots) := by
  refine MetFree.of_bodySF (Jvm.Free.JP.mathPlain rfl (by decide +kernel)) hisR ?_
  intro p e s m args below meth c s₁ Bd hml0 hP hK
  obtain ⟨rfl, hZ, hh⟩ := hP
  have hx := Bd.exec
  have hby := Bd.bytes
  have hml : c.maxLocals = 4 := hml0
  have hown : s.vm.findClass "java/lang/Math" = some m.cls := findClass_of_methodNamed Bd.named
  have hnm := (name_of_methodNamed Bd.named Bd.method).1
  have X0 : Stand p l e ({ frames := 0, cells := 0, slots := 0, locals := 0 } : Room) s m #[(.long p1), (.long p2)] below meth c s₁ [] 0 0 := Stand.of_body Bd
  have e0 : s₁.heap = h0 := by rw [← hh, Bd.state]; rfl
  have N0 := Fr.nil n0
  have pre0 : ∀ tt_, Steps p.tables e below (s₁.setTop (mkF m 0 #[.val (.long p1), .second, .val (.long p2), .second] [])) tt_ → Steps p.tables e below (s₁.setTop (entryFrame m #[(.long p1), (.long p2)] 4)) tt_ := fun tt_ kk_ => castTop (own_ef_rmMinL m p1 p2) kk_
  have pre1 : ∀ tt_, Steps p.tables e below (s₁.setTop (mkF m 3 #[.val (.long p1), .second, .val (.long p2), .second] [(.int (lcmpW p1 p2))])) tt_ → Steps p.tables e below (s₁.setTop (entryFrame m #[(.long p1), (.long p2)] 4)) tt_ := fun tt_ kk_ => pre0 tt_ (by
    show Steps p.tables e below (s₁.setTop (mkF m 0 #[.val (.long p1), .second, .val (.long p2), .second] [])) _
    refine XS.lloadN X0.here hx rfl (hb hby own_d_jdk_29_method_70_code_0) rfl ?_
    refine XS.lloadN X0.here hx rfl (hb hby own_d_jdk_29_method_70_code_1) rfl ?_
    refine XS.lcmp X0.here hx rfl (hb hby own_d_jdk_29_method_70_code_2) rfl ?_
    exact kk_)
  by_cases hc : p2 < p1
  · have pre2 : ∀ tt_, Steps p.tables e below (s₁.setTop (mkF m 11 #[.val (.long p1), .second, .val (.long p2), .second] [(.long p2)])) tt_ → Steps p.tables e below (s₁.setTop (entryFrame m #[(.long p1), (.long p2)] 4)) tt_ := fun tt_ kk_ => pre1 tt_ (by
      show Steps p.tables e below (s₁.setTop (mkF m 3 #[.val (.long p1), .second, .val (.long p2), .second] [(.int (lcmpW p1 p2))])) _
      refine XS.ifYes X0.here hx rfl (pc0 := 3) (pc' := 10) rfl (hb hby own_d_jdk_29_method_70_code_3) rfl ((if0 _ _).trans (tlt ((own_lcgt hc) : (0 : Int32) < (lcmpW p1 p2))).2.2.1) (by decide) (by decide) ?_
      refine XS.lloadN X0.here hx rfl (hb hby own_d_jdk_29_method_70_code_10) rfl ?_
      exact kk_)
    obtain ⟨fs, hr, hrun, hended, hW, hsame⟩ := X0.leave (v := some (.long p2)) (fun h => by rw [Bd.returns] at h; cases h)
    refine ⟨_, _, pre2 _ ?_, hrun, hended, _, _, rfl, ?_, ⟨_, rfl⟩, hW, hsame.mono (by decide) (by decide)⟩
    · show Steps p.tables e below (s₁.setTop (mkF m 11 #[.val (.long p1), .second, .val (.long p2), .second] [(.long p2)])) _
      exact retOut X0 hx (t := .long) (i := .lreturn) Bd.returns rfl (Or.inr (Or.inl ⟨rfl, rfl, _, rfl⟩)) (hb hby own_d_jdk_29_method_70_code_11) hr
    · show QP (.long r) h0 n0 _ s₁.heap _
      rw [e0]
      exact ⟨by rw [← hres, own_minL, if_pos hc], N0, rfl⟩
  · have pre3 : ∀ tt_, Steps p.tables e below (s₁.setTop (mkF m 11 #[.val (.long p1), .second, .val (.long p2), .second] [(.long p1)])) tt_ → Steps p.tables e below (s₁.setTop (entryFrame m #[(.long p1), (.long p2)] 4)) tt_ := fun tt_ kk_ => pre1 tt_ (by
      show Steps p.tables e below (s₁.setTop (mkF m 3 #[.val (.long p1), .second, .val (.long p2), .second] [(.int (lcmpW p1 p2))])) _
      refine XS.ifNo X0.here hx rfl (hb hby own_d_jdk_29_method_70_code_3) rfl ((if0 _ _).trans (flt ((own_lcle hc) : ¬ ((0 : Int32) < (lcmpW p1 p2)))).2.2.1) ?_
      refine XS.lloadN X0.here hx rfl (hb hby own_d_jdk_29_method_70_code_6) rfl ?_
      refine XS.goto X0.here hx rfl (pc0 := 7) (pc' := 11) rfl (hb hby own_d_jdk_29_method_70_code_7) (by decide) (by decide) ?_
      exact kk_)
    obtain ⟨fs, hr, hrun, hended, hW, hsame⟩ := X0.leave (v := some (.long p1)) (fun h => by rw [Bd.returns] at h; cases h)
    refine ⟨_, _, pre3 _ ?_, hrun, hended, _, _, rfl, ?_, ⟨_, rfl⟩, hW, hsame.mono (by decide) (by decide)⟩
    · show Steps p.tables e below (s₁.setTop (mkF m 11 #[.val (.long p1), .second, .val (.long p2), .second] [(.long p1)])) _
      exact retOut X0 hx (t := .long) (i := .lreturn) Bd.returns rfl (Or.inr (Or.inl ⟨rfl, rfl, _, rfl⟩)) (hb hby own_d_jdk_29_method_70_code_11) hr
    · show QP (.long r) h0 n0 _ s₁.heap _
      rw [e0]
      exact ⟨by rw [← hres, own_minL, if_neg hc], N0, rfl⟩
def own_Q (Z : State) (h : Heap) (a : Addr) (p : Nat) (lw : Int32) : Prop := ∃ (hd : Addr) (kh : ClassId) (vh : List Value) (tl : Addr) (kt : ClassId) (vt : List Value) (ar : Addr) (ka : ClassId) (va : List Value) (nn : Int32),
  Fld Z h a "com/example/elderflower/elderflower/PagedWords" "heads" "[[J" (.ref hd) ∧ Fld Z h a "com/example/elderflower/elderflower/PagedWords" "tails" "[[J" (.ref tl) ∧ Fld Z h a "com/example/elderflower/elderflower/PagedWords" "arrays" "[[J" (.ref ar) ∧ Arv Z h hd kh (.array .long) (Int32.ofNat p) vh .null ∧ Arv Z h tl kt (.array .long) (Int32.ofNat p) vt .null ∧ Arv Z h ar ka (.array .long) nn va .null ∧ nn.toInt = (if (32764 : Int32) < lw then 2 * (p : Int) else 2 * (p : Int) - 1) ∧
  (∀ pg : Nat, pg < p → ∃ r, vh.getD pg .null = .ref r ∧ va.getD (2 * pg) .null = .ref r ∧ own_Len Z h r .long (own_lenH p lw pg)) ∧
  (∀ pg : Nat, pg < p → (pg + 1 < p ∨ (32764 : Int32) < lw) → ∃ r, vt.getD pg .null = .ref r ∧ va.getD (2 * pg + 1) .null = .ref r ∧ own_Len Z h r .long (own_lenT p lw pg))
def QI (Z : State) (a : Addr) (p : Nat) (lw : Int32) (h0 : Heap) (n0 : Nat) (v : Option Value) (h : Heap) (L : List Loc) : Prop := v = none ∧ Fr n0 L ∧ Keep h0 h [a] ∧ own_Q Z h a p lw
theorem own_ef_rmI_1_1 (m : MethodId) (y0 : Addr) (y1 : Int64) : entryFrame m #[(.ref y0), (.long y1)] 7 = mkF m 0 #[.val (.ref y0), .val (.long y1), .second, .unset, .unset, .unset, .unset] [] := by first | (simp [entryFrame, mkF, argsToLocals, Value.category]; done) | rfl
set_option maxRecDepth 65536 in
set_option maxHeartbeats 40000000 in
theorem rmI_1_1 (l : Launch) (Z : State) (a0 : Array Value) (hw : ∀ d ∈ tables_1, d.before a0 Z = true) (ws : List Jvm.Cond) (a : Addr) (q : Int64) (lw : Int32) (h0 : Heap) (n0 : Nat) (Z0 : n0 ≤ h0.size) (E_a : Exa Z h0 a "com/example/elderflower/elderflower/PagedWords") (g_a : n0 ≤ a) (F_size : Fld Z h0 a "com/example/elderflower/elderflower/PagedWords" "size" "J" (.long (0 : Int64))) (F_heads : Fld Z h0 a "com/example/elderflower/elderflower/PagedWords" "heads" "[[J" .null) (F_tails : Fld Z h0 a "com/example/elderflower/elderflower/PagedWords" "tails" "[[J" .null) (F_arrays : Fld Z h0 a "com/example/elderflower/elderflower/PagedWords" "arrays" "[[J" .null) (S_PAGE_SHIFT : Sta Z h0 "com/example/elderflower/elderflower/PagedWords" "PAGE_SHIFT" "I" (.int (15 : Int32))) (hpg : ((((q + (32768 : Int64)) - (1 : Int64)).toUInt64 >>> ((15 : Int32) &&& 0x3f).toInt64.toUInt64).toInt64).toInt32 = Int32.ofNat 1) (hlw : (q - Int64.ofNat ((1 - 1) * 32768)).toInt32 = lw) (hlb : own_LW lw) (ht : (32764 : Int32) < lw) :
    MetFree l (⟨"com/example/elderflower/elderflower/PagedWords", "<init>", "(J)V"⟩ : MethodName) (head1 (Jvm.Cond.code (⟨"com/example/elderflower/elderflower/PagedWords", "<init>", "(J)V"⟩ : MethodName) prog_35_method_1_code 7 none :: ws) ({ frames := 1, cells := 11, slots := 131088, locals := 15 } : Room)) (fun ar_ U => ar_ = #[(.ref a), (.long q)] ∧ Z.Warmed39 U.vm ∧ U.heap = h0) (fun _ _ _ _ _ => True) (fun _ U o U' => ∃ v L, o = .returned v ∧ QI Z a 1 lw h0 n0 v U'.heap L ∧ FrameEnd U o U' L ({ frames := 1, cells := 11, slots := 131088, locals := 15 } : Room).cells ({ frames := 1, cells := 11, slots := 131088, locals := 15 } : Room).slots) := by
  refine MetFree.of_bodySF (plainFor_of_name own_pn0) hisR ?_
  intro p e s m args below meth c s₁ Bd hml0 hP hK
  obtain ⟨rfl, hZ, hh⟩ := hP
  have hx := Bd.exec
  have hby := Bd.bytes
  have hml : c.maxLocals = 7 := hml0
  have hown : s.vm.findClass "com/example/elderflower/elderflower/PagedWords" = some m.cls := findClass_of_methodNamed Bd.named
  have hnm := (name_of_methodNamed Bd.named Bd.method).1
  have X0 : Stand p l e ({ frames := 1, cells := 11, slots := 131088, locals := 15 } : Room) s m #[(.ref a), (.long q)] below meth c s₁ [] 0 0 := Stand.of_body Bd
  have e0 : s₁.heap = h0 := by rw [← hh, Bd.state]; rfl
  have N0 := Fr.nil n0
  have pre0 : ∀ tt_, Steps p.tables e below (s₁.setTop (mkF m 0 #[.val (.ref a), .val (.long q), .second, .unset, .unset, .unset, .unset] [])) tt_ → Steps p.tables e below (s₁.setTop (entryFrame m #[(.ref a), (.long q)] 7)) tt_ := fun tt_ kk_ => castTop (own_ef_rmI_1_1 m a q) kk_
  obtain ⟨T1, X1, e1, st1⟩ := initO X0 hx hZ hown (hw _ (List.mem_of_getElem? (i := 8) rfl)) (hw _ (List.mem_of_getElem? (i := 9) rfl)) (hw _ (List.mem_of_getElem? (i := 10) rfl)) e0 (g := (mkF m 1 #[.val (.ref a), .val (.long q), .second, .unset, .unset, .unset, .unset] [(.ref a)])) rfl (by rw [hml]; rfl) rfl (hb hby own_d_prog_35_method_1_code_1) (by decide) (W := 0) (by show 2 * 0 + _ ≤ _; exact Nat.le_of_eq rfl) (by decide)
  obtain ⟨T2, X2, e2, st2⟩ := getS2 X1 hx hZ hown (host := "") (Or.inl (hw _ (List.mem_of_getElem? (i := 12) rfl))) Via.refl e1 S_PAGE_SHIFT (g := (mkF m 11 #[.val (.ref a), .val (.long q), .second, .unset, .unset, .unset, .unset] [(.long ((q + (32768 : Int64)) - (1 : Int64)))])) rfl (hb hby own_d_prog_35_method_1_code_11)
  have hpg' : (((((q + (32768 : Int64)) - (1 : Int64)).toUInt64 >>> ((15 : Int32) &&& 0x3f).toInt64.toUInt64).toInt64).toInt32) = (1 : Int32) := hpg
  have pre3 : ∀ tt_, Steps p.tables e below (T2.setTop (mkF m 16 #[.val (.ref a), .val (.long q), .second, .unset, .unset, .unset, .unset] [(.int (((((q + (32768 : Int64)) - (1 : Int64)).toUInt64 >>> ((15 : Int32) &&& 0x3f).toInt64.toUInt64).toInt64).toInt32))])) tt_ → Steps p.tables e below (s₁.setTop (entryFrame m #[(.ref a), (.long q)] 7)) tt_ := fun tt_ kk_ => pre0 tt_ (by
    show Steps p.tables e below (s₁.setTop (mkF m 0 #[.val (.ref a), .val (.long q), .second, .unset, .unset, .unset, .unset] [])) _
    refine XS.aloadN X0.here hx rfl (hb hby own_d_prog_35_method_1_code_0) rfl rfl ?_
    refine st1 _ ?_
    refine XS.lloadN X1.here hx rfl (hb hby own_d_prog_35_method_1_code_4) rfl ?_
    refine X1.ldc2Long hx hown (mvT hZ (hw _ (List.mem_of_getElem? (i := 11) rfl))) (g := (mkF m 5 #[.val (.ref a), .val (.long q), .second, .unset, .unset, .unset, .unset] [(.long q)])) rfl (hb hby own_d_prog_35_method_1_code_5) _ ?_
    refine XS.ladd X1.here hx rfl (hb hby own_d_prog_35_method_1_code_8) rfl ?_
    refine XS.lconst X1.here hx rfl (hb hby own_d_prog_35_method_1_code_9) ?_
    show Steps p.tables e below (T1.setTop (mkF m 10 #[.val (.ref a), .val (.long q), .second, .unset, .unset, .unset, .unset] [(.long (1 : Int64)), (.long (q + (32768 : Int64)))])) _
    refine XS.lsub X1.here hx rfl (hb hby own_d_prog_35_method_1_code_10) rfl ?_
    refine st2 _ ?_
    refine XS.lushr X2.here hx rfl (hb hby own_d_prog_35_method_1_code_14) rfl ?_
    refine XS.l2i X2.here hx rfl (hb hby own_d_prog_35_method_1_code_15) rfl ?_
    exact kk_)
  rw [hpg'] at pre3
  have fold4 : ((1 : Int32) - (1 : Int32)) = (0 : Int32) := by decide +kernel
  have fold5 : ((0 : Int32).toInt64) = (0 : Int64) := by decide +kernel
  obtain ⟨T6, X6, e6, st6⟩ := getS2 X2 hx hZ hown (host := "") (Or.inl (hw _ (List.mem_of_getElem? (i := 12) rfl))) Via.refl e2 S_PAGE_SHIFT (g := (mkF m 22 #[.val (.ref a), .val (.long q), .second, .val (.int (1 : Int32)), .unset, .unset, .unset] [(.long (0 : Int64)), (.long q)])) rfl (hb hby own_d_prog_35_method_1_code_22)
  have fold7 : ((0 : Int64) <<< ((15 : Int32) &&& 0x3f).toInt64) = (0 : Int64) := by decide +kernel
  have hlw' : ((q - (0 : Int64)).toInt32) = lw := by rw [← hlw]; rfl
  have pre8 : ∀ tt_, Steps p.tables e below (T6.setTop (mkF m 28 #[.val (.ref a), .val (.long q), .second, .val (.int (1 : Int32)), .unset, .unset, .unset] [(.int ((q - (0 : Int64)).toInt32))])) tt_ → Steps p.tables e below (s₁.setTop (entryFrame m #[(.ref a), (.long q)] 7)) tt_ := fun tt_ kk_ => pre3 tt_ (by
    show Steps p.tables e below (T2.setTop (mkF m 16 #[.val (.ref a), .val (.long q), .second, .unset, .unset, .unset, .unset] [(.int (1 : Int32))])) _
    refine XS.istoreN X2.here hx rfl (hb hby own_d_prog_35_method_1_code_16) rfl (l' := #[.val (.ref a), .val (.long q), .second, .val (.int (1 : Int32)), .unset, .unset, .unset]) rfl ?_
    refine XS.lloadN X2.here hx rfl (hb hby own_d_prog_35_method_1_code_17) rfl ?_
    refine XS.iloadN X2.here hx rfl (hb hby own_d_prog_35_method_1_code_18) rfl ?_
    show Steps p.tables e below (T2.setTop (mkF m 19 #[.val (.ref a), .val (.long q), .second, .val (.int (1 : Int32)), .unset, .unset, .unset] [(.int (1 : Int32)), (.long q)])) _
    refine XS.iconst X2.here hx rfl (hb hby own_d_prog_35_method_1_code_19) ?_
    refine XS.isub X2.here hx rfl (hb hby own_d_prog_35_method_1_code_20) rfl ?_
    show Steps p.tables e below (T2.setTop (mkF m 21 #[.val (.ref a), .val (.long q), .second, .val (.int (1 : Int32)), .unset, .unset, .unset] [(.int ((1 : Int32) - (1 : Int32))), (.long q)])) _
    rw [fold4]
    show Steps p.tables e below (T2.setTop (mkF m 21 #[.val (.ref a), .val (.long q), .second, .val (.int (1 : Int32)), .unset, .unset, .unset] [(.int (0 : Int32)), (.long q)])) _
    refine XS.i2l X2.here hx rfl (hb hby own_d_prog_35_method_1_code_21) rfl ?_
    show Steps p.tables e below (T2.setTop (mkF m 22 #[.val (.ref a), .val (.long q), .second, .val (.int (1 : Int32)), .unset, .unset, .unset] [(.long ((0 : Int32).toInt64)), (.long q)])) _
    rw [fold5]
    show Steps p.tables e below (T2.setTop (mkF m 22 #[.val (.ref a), .val (.long q), .second, .val (.int (1 : Int32)), .unset, .unset, .unset] [(.long (0 : Int64)), (.long q)])) _
    refine st6 _ ?_
    refine XS.lshl X6.here hx rfl (hb hby own_d_prog_35_method_1_code_25) rfl ?_
    show Steps p.tables e below (T6.setTop (mkF m 26 #[.val (.ref a), .val (.long q), .second, .val (.int (1 : Int32)), .unset, .unset, .unset] [(.long ((0 : Int64) <<< ((15 : Int32) &&& 0x3f).toInt64)), (.long q)])) _
    rw [fold7]
    show Steps p.tables e below (T6.setTop (mkF m 26 #[.val (.ref a), .val (.long q), .second, .val (.int (1 : Int32)), .unset, .unset, .unset] [(.long (0 : Int64)), (.long q)])) _
    refine XS.lsub X6.here hx rfl (hb hby own_d_prog_35_method_1_code_26) rfl ?_
    refine XS.l2i X6.here hx rfl (hb hby own_d_prog_35_method_1_code_27) rfl ?_
    exact kk_)
  rw [hlw'] at pre8
  obtain ⟨T9, h9, X9, e9, W9, st9⟩ := putF X6 hx hZ hown (host := "") (Or.inl (hw _ (List.mem_of_getElem? (i := 14) rfl))) Via.refl e6 F_size E_a (Or.inr ⟨(hw _ (List.mem_of_getElem? (i := 15) rfl)), rfl, hnm⟩) (hw _ (List.mem_of_getElem? (i := 3) rfl)) (ty := .long) (by decide) rfl rfl (g := (mkF m 32 #[.val (.ref a), .val (.long q), .second, .val (.int (1 : Int32)), .val (.int lw), .unset, .unset] [(.long q), (.ref a)])) rfl rfl (hb hby own_d_prog_35_method_1_code_32)
  have F9_0 := F_size.same W9
  have F9_1 := F_heads.other W9 (Or.inr (slot_ne (Or.inr (hw _ (List.mem_of_getElem? (i := 19) rfl))) (Or.inr (hw _ (List.mem_of_getElem? (i := 15) rfl))) (by decide) (t := (.array (.array .long))) (t' := .long) (by decide) (by decide)))
  have F9_2 := F_tails.other W9 (Or.inr (slot_ne (Or.inr (hw _ (List.mem_of_getElem? (i := 21) rfl))) (Or.inr (hw _ (List.mem_of_getElem? (i := 15) rfl))) (by decide) (t := (.array (.array .long))) (t' := .long) (by decide) (by decide)))
  have F9_3 := F_arrays.other W9 (Or.inr (slot_ne (Or.inr (hw _ (List.mem_of_getElem? (i := 23) rfl))) (Or.inr (hw _ (List.mem_of_getElem? (i := 15) rfl))) (by decide) (t := (.array (.array .long))) (t' := .long) (by decide) (by decide)))
  have X9_0 := E_a.wr W9
  have S9_0 := S_PAGE_SHIFT.wr W9
  have z9 : n0 ≤ h9.size := by rw [W9.size]; exact Z0
  have K9 : Keep h0 h9 [a] := (Keep.refl h0 [a]).wr W9 (Or.inl (by simp))
  have N9 := Fr.snoc X9 N0 g_a
  obtain ⟨T10, h10, k10, X10, e10, E10, A10, O10, st10⟩ := own_newRA X9 hx hZ hown (hw _ (List.mem_of_getElem? (i := 16) rfl)) (hw _ (List.mem_of_getElem? (i := 17) rfl)) (by decide +kernel) e9 (g := (mkF m 37 #[.val (.ref a), .val (.long q), .second, .val (.int (1 : Int32)), .val (.int lw), .unset, .unset] [(.int (1 : Int32)), (.ref a)])) rfl (hb hby own_d_prog_35_method_1_code_37) rfl (by decide) (cap := 1) (by decide) (by decide) (by decide) (by decide)
  obtain ⟨b10, g10⟩ : ∃ z, z = h9.size := ⟨_, rfl⟩
  rw [← g10] at A10 st10
  have g_b10 : n0 ≤ b10 := Nat.le_trans z9 (Nat.le_of_eq g10.symm)
  have sz_b10 : h0.size ≤ b10 := Nat.le_trans K9.1 (Nat.le_of_eq g10.symm)
  have F10_0 := F9_0.ext E10
  have F10_1 := F9_1.ext E10
  have F10_2 := F9_2.ext E10
  have F10_3 := F9_3.ext E10
  have X10_0 := X9_0.ext E10
  have S10_0 := S9_0.ext E10
  have z10 : n0 ≤ h10.size := Nat.le_trans z9 E10.1
  have K10 : Keep h0 h10 [a] := K9.ext E10
  have V_b10 : Arv Z h10 b10 k10 (.array .long) (1 : Int32) [.null] .null := (Arv.new A10 (by decide)).pad (pad_rep [] .null 1)
  obtain ⟨T11, h11, X11, e11, W11, st11⟩ := putF X10 hx hZ hown (host := "") (Or.inl (hw _ (List.mem_of_getElem? (i := 18) rfl))) Via.refl e10 F10_1 X10_0 (Or.inr ⟨(hw _ (List.mem_of_getElem? (i := 19) rfl)), rfl, hnm⟩) (hw _ (List.mem_of_getElem? (i := 3) rfl)) (ty := (.array (.array .long))) (by decide) rfl rfl (g := (mkF m 40 #[.val (.ref a), .val (.long q), .second, .val (.int (1 : Int32)), .val (.int lw), .unset, .unset] [(.ref b10), (.ref a)])) rfl rfl (hb hby own_d_prog_35_method_1_code_40)
  have F11_0 := F10_0.other W11 (Or.inr (slot_ne (Or.inr (hw _ (List.mem_of_getElem? (i := 15) rfl))) (Or.inr (hw _ (List.mem_of_getElem? (i := 19) rfl))) (by decide) (t := .long) (t' := (.array (.array .long))) (by decide) (by decide)))
  have F11_1 := F10_1.same W11
  have F11_2 := F10_2.other W11 (Or.inr (slot_ne (Or.inr (hw _ (List.mem_of_getElem? (i := 21) rfl))) (Or.inr (hw _ (List.mem_of_getElem? (i := 19) rfl))) (by decide) (t := (.array (.array .long))) (t' := (.array (.array .long))) (by decide) (by decide)))
  have F11_3 := F10_3.other W11 (Or.inr (slot_ne (Or.inr (hw _ (List.mem_of_getElem? (i := 23) rfl))) (Or.inr (hw _ (List.mem_of_getElem? (i := 19) rfl))) (by decide) (t := (.array (.array .long))) (t' := (.array (.array .long))) (by decide) (by decide)))
  have X11_0 := X10_0.wr W11
  have S11_0 := S10_0.wr W11
  have ne_a_b10 : a ≠ b10 := Nat.ne_of_lt (Nat.lt_of_lt_of_le (X9_0).lt (Nat.le_of_eq g10.symm))
  have V11_0 := V_b10.other W11 (Ne.symm ne_a_b10)
  have z11 : n0 ≤ h11.size := by rw [W11.size]; exact z10
  have K11 : Keep h0 h11 [a] := K10.wr W11 (Or.inl (by simp))
  have N11 := Fr.snoc X11 N9 g_a
  obtain ⟨T12, h12, k12, X12, e12, E12, A12, O12, st12⟩ := own_newRA X11 hx hZ hown (hw _ (List.mem_of_getElem? (i := 16) rfl)) (hw _ (List.mem_of_getElem? (i := 17) rfl)) (by decide +kernel) e11 (g := (mkF m 45 #[.val (.ref a), .val (.long q), .second, .val (.int (1 : Int32)), .val (.int lw), .unset, .unset] [(.int (1 : Int32)), (.ref a)])) rfl (hb hby own_d_prog_35_method_1_code_45) rfl (by decide) (cap := 1) (by decide) (by decide) (by decide) (by decide)
  obtain ⟨b12, g12⟩ : ∃ z, z = h11.size := ⟨_, rfl⟩
  rw [← g12] at A12 st12
  have g_b12 : n0 ≤ b12 := Nat.le_trans z11 (Nat.le_of_eq g12.symm)
  have sz_b12 : h0.size ≤ b12 := Nat.le_trans K11.1 (Nat.le_of_eq g12.symm)
  have F12_0 := F11_0.ext E12
  have F12_1 := F11_1.ext E12
  have F12_2 := F11_2.ext E12
  have F12_3 := F11_3.ext E12
  have X12_0 := X11_0.ext E12
  have S12_0 := S11_0.ext E12
  have V12_0 := V11_0.ext E12
  have z12 : n0 ≤ h12.size := Nat.le_trans z11 E12.1
  have K12 : Keep h0 h12 [a] := K11.ext E12
  have V_b12 : Arv Z h12 b12 k12 (.array .long) (1 : Int32) [.null] .null := (Arv.new A12 (by decide)).pad (pad_rep [] .null 1)
  obtain ⟨T13, h13, X13, e13, W13, st13⟩ := putF X12 hx hZ hown (host := "") (Or.inl (hw _ (List.mem_of_getElem? (i := 20) rfl))) Via.refl e12 F12_2 X12_0 (Or.inr ⟨(hw _ (List.mem_of_getElem? (i := 21) rfl)), rfl, hnm⟩) (hw _ (List.mem_of_getElem? (i := 3) rfl)) (ty := (.array (.array .long))) (by decide) rfl rfl (g := (mkF m 48 #[.val (.ref a), .val (.long q), .second, .val (.int (1 : Int32)), .val (.int lw), .unset, .unset] [(.ref b12), (.ref a)])) rfl rfl (hb hby own_d_prog_35_method_1_code_48)
  have F13_0 := F12_0.other W13 (Or.inr (slot_ne (Or.inr (hw _ (List.mem_of_getElem? (i := 15) rfl))) (Or.inr (hw _ (List.mem_of_getElem? (i := 21) rfl))) (by decide) (t := .long) (t' := (.array (.array .long))) (by decide) (by decide)))
  have F13_1 := F12_1.other W13 (Or.inr (slot_ne (Or.inr (hw _ (List.mem_of_getElem? (i := 19) rfl))) (Or.inr (hw _ (List.mem_of_getElem? (i := 21) rfl))) (by decide) (t := (.array (.array .long))) (t' := (.array (.array .long))) (by decide) (by decide)))
  have F13_2 := F12_2.same W13
  have F13_3 := F12_3.other W13 (Or.inr (slot_ne (Or.inr (hw _ (List.mem_of_getElem? (i := 23) rfl))) (Or.inr (hw _ (List.mem_of_getElem? (i := 21) rfl))) (by decide) (t := (.array (.array .long))) (t' := (.array (.array .long))) (by decide) (by decide)))
  have X13_0 := X12_0.wr W13
  have S13_0 := S12_0.wr W13
  have V13_0 := V12_0.other W13 (Ne.symm ne_a_b10)
  have ne_a_b12 : a ≠ b12 := Nat.ne_of_lt (Nat.lt_of_lt_of_le (X11_0).lt (Nat.le_of_eq g12.symm))
  have V13_1 := V_b12.other W13 (Ne.symm ne_a_b12)
  have z13 : n0 ≤ h13.size := by rw [W13.size]; exact z12
  have K13 : Keep h0 h13 [a] := K12.wr W13 (Or.inl (by simp))
  have N13 := Fr.snoc X13 N11 g_a
  have fold14 : ((2 : Int32) * (1 : Int32)) = (2 : Int32) := by decide +kernel
  have fold15 : ((2 : Int32) - (0 : Int32)) = (2 : Int32) := by decide +kernel
  obtain ⟨T16, h16, k16, X16, e16, E16, A16, O16, st16⟩ := own_newRA X13 hx hZ hown (hw _ (List.mem_of_getElem? (i := 16) rfl)) (hw _ (List.mem_of_getElem? (i := 17) rfl)) (by decide +kernel) e13 (g := (mkF m 69 #[.val (.ref a), .val (.long q), .second, .val (.int (1 : Int32)), .val (.int lw), .unset, .unset] [(.int (2 : Int32)), (.ref a)])) rfl (hb hby own_d_prog_35_method_1_code_69) rfl (by decide) (cap := 2) (by decide) (by decide) (by decide) (by decide)
  obtain ⟨b16, g16⟩ : ∃ z, z = h13.size := ⟨_, rfl⟩
  rw [← g16] at A16 st16
  have g_b16 : n0 ≤ b16 := Nat.le_trans z13 (Nat.le_of_eq g16.symm)
  have sz_b16 : h0.size ≤ b16 := Nat.le_trans K13.1 (Nat.le_of_eq g16.symm)
  have F16_0 := F13_0.ext E16
  have F16_1 := F13_1.ext E16
  have F16_2 := F13_2.ext E16
  have F16_3 := F13_3.ext E16
  have X16_0 := X13_0.ext E16
  have S16_0 := S13_0.ext E16
  have V16_0 := V13_0.ext E16
  have V16_1 := V13_1.ext E16
  have z16 : n0 ≤ h16.size := Nat.le_trans z13 E16.1
  have K16 : Keep h0 h16 [a] := K13.ext E16
  have V_b16 : Arv Z h16 b16 k16 (.array .long) (2 : Int32) [.null, .null] .null := (Arv.new A16 (by decide)).pad (pad_rep [] .null 2)
  obtain ⟨T17, h17, X17, e17, W17, st17⟩ := putF X16 hx hZ hown (host := "") (Or.inl (hw _ (List.mem_of_getElem? (i := 22) rfl))) Via.refl e16 F16_3 X16_0 (Or.inr ⟨(hw _ (List.mem_of_getElem? (i := 23) rfl)), rfl, hnm⟩) (hw _ (List.mem_of_getElem? (i := 3) rfl)) (ty := (.array (.array .long))) (by decide) rfl rfl (g := (mkF m 72 #[.val (.ref a), .val (.long q), .second, .val (.int (1 : Int32)), .val (.int lw), .unset, .unset] [(.ref b16), (.ref a)])) rfl rfl (hb hby own_d_prog_35_method_1_code_72)
  have F17_0 := F16_0.other W17 (Or.inr (slot_ne (Or.inr (hw _ (List.mem_of_getElem? (i := 15) rfl))) (Or.inr (hw _ (List.mem_of_getElem? (i := 23) rfl))) (by decide) (t := .long) (t' := (.array (.array .long))) (by decide) (by decide)))
  have F17_1 := F16_1.other W17 (Or.inr (slot_ne (Or.inr (hw _ (List.mem_of_getElem? (i := 19) rfl))) (Or.inr (hw _ (List.mem_of_getElem? (i := 23) rfl))) (by decide) (t := (.array (.array .long))) (t' := (.array (.array .long))) (by decide) (by decide)))
  have F17_2 := F16_2.other W17 (Or.inr (slot_ne (Or.inr (hw _ (List.mem_of_getElem? (i := 21) rfl))) (Or.inr (hw _ (List.mem_of_getElem? (i := 23) rfl))) (by decide) (t := (.array (.array .long))) (t' := (.array (.array .long))) (by decide) (by decide)))
  have F17_3 := F16_3.same W17
  have X17_0 := X16_0.wr W17
  have S17_0 := S16_0.wr W17
  have V17_0 := V16_0.other W17 (Ne.symm ne_a_b10)
  have V17_1 := V16_1.other W17 (Ne.symm ne_a_b12)
  have ne_a_b16 : a ≠ b16 := Nat.ne_of_lt (Nat.lt_of_lt_of_le (X13_0).lt (Nat.le_of_eq g16.symm))
  have V17_2 := V_b16.other W17 (Ne.symm ne_a_b16)
  have z17 : n0 ≤ h17.size := by rw [W17.size]; exact z16
  have K17 : Keep h0 h17 [a] := K16.wr W17 (Or.inl (by simp))
  have N17 := Fr.snoc X17 N13 g_a
  have pre18 : ∀ tt_, Steps p.tables e below (T17.setTop (mkF m 78 #[.val (.ref a), .val (.long q), .second, .val (.int (1 : Int32)), .val (.int lw), .val (.int (0 : Int32)), .unset] [])) tt_ → Steps p.tables e below (s₁.setTop (entryFrame m #[(.ref a), (.long q)] 7)) tt_ := fun tt_ kk_ => pre8 tt_ (by
    show Steps p.tables e below (T6.setTop (mkF m 28 #[.val (.ref a), .val (.long q), .second, .val (.int (1 : Int32)), .unset, .unset, .unset] [(.int lw)])) _
    refine XS.istore X6.here hx rfl (hb hby own_d_prog_35_method_1_code_28) rfl (l' := #[.val (.ref a), .val (.long q), .second, .val (.int (1 : Int32)), .val (.int lw), .unset, .unset]) rfl ?_
    refine XS.aloadN X6.here hx rfl (hb hby own_d_prog_35_method_1_code_30) rfl rfl ?_
    refine XS.lloadN X6.here hx rfl (hb hby own_d_prog_35_method_1_code_31) rfl ?_
    refine st9 _ ?_
    refine XS.aloadN X9.here hx rfl (hb hby own_d_prog_35_method_1_code_35) rfl rfl ?_
    refine XS.iloadN X9.here hx rfl (hb hby own_d_prog_35_method_1_code_36) rfl ?_
    refine st10 _ ?_
    refine st11 _ ?_
    refine XS.aloadN X11.here hx rfl (hb hby own_d_prog_35_method_1_code_43) rfl rfl ?_
    show Steps p.tables e below (T11.setTop (mkF m 44 #[.val (.ref a), .val (.long q), .second, .val (.int (1 : Int32)), .val (.int lw), .unset, .unset] [(.ref a)])) _
    refine XS.iloadN X11.here hx rfl (hb hby own_d_prog_35_method_1_code_44) rfl ?_
    refine st12 _ ?_
    refine st13 _ ?_
    refine XS.aloadN X13.here hx rfl (hb hby own_d_prog_35_method_1_code_51) rfl rfl ?_
    refine XS.iconst X13.here hx rfl (hb hby own_d_prog_35_method_1_code_52) ?_
    refine XS.iloadN X13.here hx rfl (hb hby own_d_prog_35_method_1_code_53) rfl ?_
    refine XS.imul X13.here hx rfl (hb hby own_d_prog_35_method_1_code_54) rfl ?_
    show Steps p.tables e below (T13.setTop (mkF m 55 #[.val (.ref a), .val (.long q), .second, .val (.int (1 : Int32)), .val (.int lw), .unset, .unset] [(.int ((2 : Int32) * (1 : Int32))), (.ref a)])) _
    rw [fold14]
    show Steps p.tables e below (T13.setTop (mkF m 55 #[.val (.ref a), .val (.long q), .second, .val (.int (1 : Int32)), .val (.int lw), .unset, .unset] [(.int (2 : Int32)), (.ref a)])) _
    refine XS.iload X13.here hx rfl (hb hby own_d_prog_35_method_1_code_55) rfl ?_
    show Steps p.tables e below (T13.setTop (mkF m 57 #[.val (.ref a), .val (.long q), .second, .val (.int (1 : Int32)), .val (.int lw), .unset, .unset] [(.int lw), (.int (2 : Int32)), (.ref a)])) _
    refine XS.sipush X13.here hx rfl (hb hby own_d_prog_35_method_1_code_57) ?_
    refine XS.icmpNo X13.here hx rfl (hb hby own_d_prog_35_method_1_code_60) rfl (tlt (ht : (32764 : Int32) < lw)).2.2.2 ?_
    refine XS.iconst X13.here hx rfl (hb hby own_d_prog_35_method_1_code_63) ?_
    refine XS.goto X13.here hx rfl (pc0 := 64) (pc' := 68) rfl (hb hby own_d_prog_35_method_1_code_64) (by decide) (by decide) ?_
    refine XS.isub X13.here hx rfl (hb hby own_d_prog_35_method_1_code_68) rfl ?_
    show Steps p.tables e below (T13.setTop (mkF m 69 #[.val (.ref a), .val (.long q), .second, .val (.int (1 : Int32)), .val (.int lw), .unset, .unset] [(.int ((2 : Int32) - (0 : Int32))), (.ref a)])) _
    rw [fold15]
    show Steps p.tables e below (T13.setTop (mkF m 69 #[.val (.ref a), .val (.long q), .second, .val (.int (1 : Int32)), .val (.int lw), .unset, .unset] [(.int (2 : Int32)), (.ref a)])) _
    refine st16 _ ?_
    refine st17 _ ?_
    refine XS.iconst X17.here hx rfl (hb hby own_d_prog_35_method_1_code_75) ?_
    show Steps p.tables e below (T17.setTop (mkF m 76 #[.val (.ref a), .val (.long q), .second, .val (.int (1 : Int32)), .val (.int lw), .unset, .unset] [(.int (0 : Int32))])) _
    refine XS.istore X17.here hx rfl (hb hby own_d_prog_35_method_1_code_76) rfl (l' := #[.val (.ref a), .val (.long q), .second, .val (.int (1 : Int32)), .val (.int lw), .val (.int (0 : Int32)), .unset]) rfl ?_
    exact kk_)
  have fold19 : ((1 : Int32) - (1 : Int32)) = (0 : Int32) := by decide +kernel
  obtain ⟨T20, X20, e20, st20⟩ := getF X17 hx hZ hown (host := "") (Or.inl (hw _ (List.mem_of_getElem? (i := 18) rfl))) Via.refl e17 F17_1 (g := (mkF m 102 #[.val (.ref a), .val (.long q), .second, .val (.int (1 : Int32)), .val (.int lw), .val (.int (0 : Int32)), .val (.int lw)] [(.ref a)])) rfl rfl (hb hby own_d_prog_35_method_1_code_102)
  obtain ⟨_, _, ⟨T21, L21, k21, n21⟩, -, X21, ⟨Lc21, hQ21, l21, y21, z21⟩, st21⟩ := Jvm.LawKit.callS X20 hx (y := (⟨"java/lang/Math", "min", "(II)I"⟩ : MethodName)) hown (mvT hZ (hw _ (List.mem_of_getElem? (i := 24) rfl))) (mvT hZ (hw _ (List.mem_of_getElem? (i := 25) rfl))) (mvT hZ (hw _ (List.mem_of_getElem? (i := 26) rfl))) (mvT hZ (hw _ (List.mem_of_getElem? (i := 27) rfl))) (by decide) (backOf (W := 2) (rmMin l Z a0 hw [] lw (32764 : Int32) (own_min lw (32764 : Int32)) h17 n0 z17 rfl) hZ (hw _ (List.mem_of_getElem? (i := 27) rfl)) (hw _ (List.mem_of_getElem? (i := 26) rfl)) (by decide) (by decide)) (g := (mkF m 112 #[.val (.ref a), .val (.long q), .second, .val (.int (1 : Int32)), .val (.int lw), .val (.int (0 : Int32)), .val (.int lw)] [(.int (32764 : Int32)), (.int lw), (.int (0 : Int32)), (.ref b10)])) rfl (by rw [hml]; rfl) (argsL := [(.int lw), (.int (32764 : Int32))]) (rest := [(.int (0 : Int32)), (.ref b10)]) (lenOf own_pd0 rfl) rfl (by show 2 * 0 + _ ≤ _; exact Nat.le_of_eq rfl) (hb hby own_d_prog_35_method_1_code_112) (fun _ _ => ⟨rfl, e20, (by decide : 3 + 0 ≤ _), (by decide : 4 + 0 ≤ _)⟩)
  dsimp only [Pt.U, Pt.locs, Pt.cells, Pt.slots] at X21 l21 y21 z21 st21 hQ21
  replace l21 := l21.symm; subst l21 y21 z21
  obtain ⟨rfl, N21q, e21⟩ := hQ21
  have N21 := Fr.app N17 N21q
  obtain ⟨T22, h22, k22, X22, e22, E22, A22, Ea22, st22⟩ := newPE X21 hx hZ (hw _ (List.mem_of_getElem? (i := 28) rfl)) e21 (g := (mkF m 115 #[.val (.ref a), .val (.long q), .second, .val (.int (1 : Int32)), .val (.int lw), .val (.int (0 : Int32)), .val (.int lw)] [(.int (own_min lw (32764 : Int32))), (.int (0 : Int32)), (.ref b10)])) rfl (hb hby own_d_prog_35_method_1_code_115) rfl (own_hneg hlb) (cap := 32764) (own_hcap hlb) (by decide) (by decide) (by decide) (ad := "[J") (by decide +kernel)
  obtain ⟨b22, g22⟩ : ∃ z, z = h17.size := ⟨_, rfl⟩
  rw [← g22] at A22 st22 Ea22
  have g_b22 : n0 ≤ b22 := Nat.le_trans z17 (Nat.le_of_eq g22.symm)
  have sz_b22 : h0.size ≤ b22 := Nat.le_trans K17.1 (Nat.le_of_eq g22.symm)
  have F22_0 := F17_0.ext E22
  have F22_1 := F17_1.ext E22
  have F22_2 := F17_2.ext E22
  have F22_3 := F17_3.ext E22
  have X22_0 := X17_0.ext E22
  have S22_0 := S17_0.ext E22
  have V22_0 := V17_0.ext E22
  have V22_1 := V17_1.ext E22
  have V22_2 := V17_2.ext E22
  have z22 : n0 ≤ h22.size := Nat.le_trans z17 E22.1
  have K22 : Keep h0 h22 [a] := K17.ext E22
  have V_b22 : Arv Z h22 b22 k22 .long (own_min lw (32764 : Int32)) [] (.long (0 : Int64)) := (Arv.new A22 (own_hneg hlb)).pad (pad_rep [] (.long (0 : Int64)) 0)
  obtain ⟨cl23, Ar23, q23, S23, M23, H23, G23⟩ := id V22_0
  have hin23 : ¬ ((0 : Int32) < 0 ∨ cl23.slots.size ≤ ((0 : Int32)).toNatClampNeg) := inb_of S23 ⟨by decide, by decide⟩
  obtain ⟨T24, h24, X24, e24, W24, st24⟩ := stR X22 hx hZ e22 Ar23 (j := (0 : Int32)) hin23 rfl (own_stoA Ar23 q23 O10 (Ins.self Ea22)) (g := (mkF m 117 #[.val (.ref a), .val (.long q), .second, .val (.int (1 : Int32)), .val (.int lw), .val (.int (0 : Int32)), .val (.int lw)] [(.ref b22), (.int (0 : Int32)), (.ref b10)])) rfl rfl (hb hby own_d_prog_35_method_1_code_117)
  have V_b10_24 : Arv Z h24 b10 k10 (.array .long) (1 : Int32) [(.ref b22)] .null := Arv.set Ar23 q23 S23 M23 H23 G23 rfl W24 0 rfl (Nat.le_of_ble_eq_true rfl)
  have F24_0 := F22_0.other W24 (Or.inl ne_a_b10)
  have F24_1 := F22_1.other W24 (Or.inl ne_a_b10)
  have F24_2 := F22_2.other W24 (Or.inl ne_a_b10)
  have F24_3 := F22_3.other W24 (Or.inl ne_a_b10)
  have X24_0 := X22_0.wr W24
  have X24_1 := Ea22.wr W24
  have S24_0 := S22_0.wr W24
  have ne_b10_b12 : b10 ≠ b12 := Nat.ne_of_lt (Nat.lt_of_lt_of_le (V11_0).lt (Nat.le_of_eq g12.symm))
  have V24_1 := V22_1.other W24 (Ne.symm ne_b10_b12)
  have ne_b10_b16 : b10 ≠ b16 := Nat.ne_of_lt (Nat.lt_of_lt_of_le (V13_0).lt (Nat.le_of_eq g16.symm))
  have V24_2 := V22_2.other W24 (Ne.symm ne_b10_b16)
  have ne_b10_b22 : b10 ≠ b22 := Nat.ne_of_lt (Nat.lt_of_lt_of_le (V17_0).lt (Nat.le_of_eq g22.symm))
  have V24_3 := V_b22.other W24 (Ne.symm ne_b10_b22)
  have z24 : n0 ≤ h24.size := by rw [W24.size]; exact z22
  have K24 : Keep h0 h24 [a] := K22.wr W24 (Or.inr sz_b10)
  have N24 := Fr.snoc X24 N21 g_b10
  have pre25 : ∀ tt_, Steps p.tables e below (T24.setTop (mkF m 118 #[.val (.ref a), .val (.long q), .second, .val (.int (1 : Int32)), .val (.int lw), .val (.int (0 : Int32)), .val (.int lw)] [])) tt_ → Steps p.tables e below (s₁.setTop (entryFrame m #[(.ref a), (.long q)] 7)) tt_ := fun tt_ kk_ => pre18 tt_ (by
    show Steps p.tables e below (T17.setTop (mkF m 78 #[.val (.ref a), .val (.long q), .second, .val (.int (1 : Int32)), .val (.int lw), .val (.int (0 : Int32)), .unset] [])) _
    refine XS.iload X17.here hx rfl (hb hby own_d_prog_35_method_1_code_78) rfl ?_
    refine XS.iloadN X17.here hx rfl (hb hby own_d_prog_35_method_1_code_80) rfl ?_
    refine XS.icmpNo X17.here hx rfl (hb hby own_d_prog_35_method_1_code_81) rfl (tlt ((by decide) : (0 : Int32) < (1 : Int32))).2.1 ?_
    refine XS.iload X17.here hx rfl (hb hby own_d_prog_35_method_1_code_84) rfl ?_
    refine XS.iloadN X17.here hx rfl (hb hby own_d_prog_35_method_1_code_86) rfl ?_
    show Steps p.tables e below (T17.setTop (mkF m 87 #[.val (.ref a), .val (.long q), .second, .val (.int (1 : Int32)), .val (.int lw), .val (.int (0 : Int32)), .unset] [(.int (1 : Int32)), (.int (0 : Int32))])) _
    refine XS.iconst X17.here hx rfl (hb hby own_d_prog_35_method_1_code_87) ?_
    refine XS.isub X17.here hx rfl (hb hby own_d_prog_35_method_1_code_88) rfl ?_
    show Steps p.tables e below (T17.setTop (mkF m 89 #[.val (.ref a), .val (.long q), .second, .val (.int (1 : Int32)), .val (.int lw), .val (.int (0 : Int32)), .unset] [(.int ((1 : Int32) - (1 : Int32))), (.int (0 : Int32))])) _
    rw [fold19]
    show Steps p.tables e below (T17.setTop (mkF m 89 #[.val (.ref a), .val (.long q), .second, .val (.int (1 : Int32)), .val (.int lw), .val (.int (0 : Int32)), .unset] [(.int (0 : Int32)), (.int (0 : Int32))])) _
    refine XS.icmpYes X17.here hx rfl (pc0 := 89) (pc' := 97) rfl (hb hby own_d_prog_35_method_1_code_89) rfl (flt ((by decide) : ¬ ((0 : Int32) < (0 : Int32)))).2.1 (by decide) (by decide) ?_
    refine XS.iload X17.here hx rfl (hb hby own_d_prog_35_method_1_code_97) rfl ?_
    refine XS.istore X17.here hx rfl (hb hby own_d_prog_35_method_1_code_99) rfl (l' := #[.val (.ref a), .val (.long q), .second, .val (.int (1 : Int32)), .val (.int lw), .val (.int (0 : Int32)), .val (.int lw)]) rfl ?_
    refine XS.aloadN X17.here hx rfl (hb hby own_d_prog_35_method_1_code_101) rfl rfl ?_
    refine st20 _ ?_
    show Steps p.tables e below (T20.setTop (mkF m 105 #[.val (.ref a), .val (.long q), .second, .val (.int (1 : Int32)), .val (.int lw), .val (.int (0 : Int32)), .val (.int lw)] [(.ref b10)])) _
    refine XS.iload X20.here hx rfl (hb hby own_d_prog_35_method_1_code_105) rfl ?_
    refine XS.iload X20.here hx rfl (hb hby own_d_prog_35_method_1_code_107) rfl ?_
    refine XS.sipush X20.here hx rfl (hb hby own_d_prog_35_method_1_code_109) ?_
    show Steps p.tables e below (T20.setTop (mkF m 112 #[.val (.ref a), .val (.long q), .second, .val (.int (1 : Int32)), .val (.int lw), .val (.int (0 : Int32)), .val (.int lw)] [(.int (32764 : Int32)), (.int lw), (.int (0 : Int32)), (.ref b10)])) _
    refine st21 _ ?_
    refine st22 _ ?_
    refine st24 _ ?_
    exact kk_)
  obtain ⟨T26, X26, e26, st26⟩ := getF X24 hx hZ hown (host := "") (Or.inl (hw _ (List.mem_of_getElem? (i := 20) rfl))) Via.refl e24 F24_2 (g := (mkF m 119 #[.val (.ref a), .val (.long q), .second, .val (.int (1 : Int32)), .val (.int lw), .val (.int (0 : Int32)), .val (.int lw)] [(.ref a)])) rfl rfl (hb hby own_d_prog_35_method_1_code_119)
  obtain ⟨_, _, ⟨T27, L27, k27, n27⟩, -, X27, ⟨Lc27, hQ27, l27, y27, z27⟩, st27⟩ := Jvm.LawKit.callS X26 hx (y := (⟨"java/lang/Math", "max", "(II)I"⟩ : MethodName)) hown (mvT hZ (hw _ (List.mem_of_getElem? (i := 30) rfl))) (mvT hZ (hw _ (List.mem_of_getElem? (i := 31) rfl))) (mvT hZ (hw _ (List.mem_of_getElem? (i := 26) rfl))) (mvT hZ (hw _ (List.mem_of_getElem? (i := 32) rfl))) (by decide) (backOf (W := 2) (rmMax l Z a0 hw [] (lw - (32764 : Int32)) (0 : Int32) (own_max (lw - (32764 : Int32)) (0 : Int32)) h24 n0 z24 rfl) hZ (hw _ (List.mem_of_getElem? (i := 32) rfl)) (hw _ (List.mem_of_getElem? (i := 26) rfl)) (by decide) (by decide)) (g := (mkF m 131 #[.val (.ref a), .val (.long q), .second, .val (.int (1 : Int32)), .val (.int lw), .val (.int (0 : Int32)), .val (.int lw)] [(.int (0 : Int32)), (.int (lw - (32764 : Int32))), (.int (0 : Int32)), (.ref b12)])) rfl (by rw [hml]; rfl) (argsL := [(.int (lw - (32764 : Int32))), (.int (0 : Int32))]) (rest := [(.int (0 : Int32)), (.ref b12)]) (lenOf own_pd0 rfl) rfl (by show 2 * 0 + _ ≤ _; exact Nat.le_of_eq rfl) (hb hby own_d_prog_35_method_1_code_131) (fun _ _ => ⟨rfl, e26, (by decide : 4 + 0 ≤ _), (by decide : 32768 + 0 ≤ _)⟩)
  dsimp only [Pt.U, Pt.locs, Pt.cells, Pt.slots] at X27 l27 y27 z27 st27 hQ27
  replace l27 := l27.symm; subst l27 y27 z27
  obtain ⟨rfl, N27q, e27⟩ := hQ27
  have N27 := Fr.app N24 N27q
  obtain ⟨T28, h28, k28, X28, e28, E28, A28, Ea28, st28⟩ := newPE X27 hx hZ (hw _ (List.mem_of_getElem? (i := 28) rfl)) e27 (g := (mkF m 134 #[.val (.ref a), .val (.long q), .second, .val (.int (1 : Int32)), .val (.int lw), .val (.int (0 : Int32)), .val (.int lw)] [(.int (own_max (lw - (32764 : Int32)) (0 : Int32))), (.int (0 : Int32)), (.ref b12)])) rfl (hb hby own_d_prog_35_method_1_code_134) rfl (own_tneg hlb) (cap := 4) (own_tcap hlb) (by decide) (by decide) (by decide) (ad := "[J") (by decide +kernel)
  obtain ⟨b28, g28⟩ : ∃ z, z = h24.size := ⟨_, rfl⟩
  rw [← g28] at A28 st28 Ea28
  have g_b28 : n0 ≤ b28 := Nat.le_trans z24 (Nat.le_of_eq g28.symm)
  have sz_b28 : h0.size ≤ b28 := Nat.le_trans K24.1 (Nat.le_of_eq g28.symm)
  have F28_0 := F24_0.ext E28
  have F28_1 := F24_1.ext E28
  have F28_2 := F24_2.ext E28
  have F28_3 := F24_3.ext E28
  have X28_0 := X24_0.ext E28
  have X28_1 := X24_1.ext E28
  have S28_0 := S24_0.ext E28
  have V28_0 := V_b10_24.ext E28
  have V28_1 := V24_1.ext E28
  have V28_2 := V24_2.ext E28
  have V28_3 := V24_3.ext E28
  have z28 : n0 ≤ h28.size := Nat.le_trans z24 E28.1
  have K28 : Keep h0 h28 [a] := K24.ext E28
  have V_b28 : Arv Z h28 b28 k28 .long (own_max (lw - (32764 : Int32)) (0 : Int32)) [] (.long (0 : Int64)) := (Arv.new A28 (own_tneg hlb)).pad (pad_rep [] (.long (0 : Int64)) 0)
  obtain ⟨cl29, Ar29, q29, S29, M29, H29, G29⟩ := id V28_1
  have hin29 : ¬ ((0 : Int32) < 0 ∨ cl29.slots.size ≤ ((0 : Int32)).toNatClampNeg) := inb_of S29 ⟨by decide, by decide⟩
  obtain ⟨T30, h30, X30, e30, W30, st30⟩ := stR X28 hx hZ e28 Ar29 (j := (0 : Int32)) hin29 rfl (own_stoA Ar29 q29 O12 (Ins.self Ea28)) (g := (mkF m 136 #[.val (.ref a), .val (.long q), .second, .val (.int (1 : Int32)), .val (.int lw), .val (.int (0 : Int32)), .val (.int lw)] [(.ref b28), (.int (0 : Int32)), (.ref b12)])) rfl rfl (hb hby own_d_prog_35_method_1_code_136)
  have V_b12_30 : Arv Z h30 b12 k12 (.array .long) (1 : Int32) [(.ref b28)] .null := Arv.set Ar29 q29 S29 M29 H29 G29 rfl W30 0 rfl (Nat.le_of_ble_eq_true rfl)
  have F30_0 := F28_0.other W30 (Or.inl ne_a_b12)
  have F30_1 := F28_1.other W30 (Or.inl ne_a_b12)
  have F30_2 := F28_2.other W30 (Or.inl ne_a_b12)
  have F30_3 := F28_3.other W30 (Or.inl ne_a_b12)
  have X30_0 := X28_0.wr W30
  have X30_1 := X28_1.wr W30
  have X30_2 := Ea28.wr W30
  have S30_0 := S28_0.wr W30
  have V30_0 := V28_0.other W30 ne_b10_b12
  have ne_b12_b16 : b12 ≠ b16 := Nat.ne_of_lt (Nat.lt_of_lt_of_le (V13_1).lt (Nat.le_of_eq g16.symm))
  have V30_2 := V28_2.other W30 (Ne.symm ne_b12_b16)
  have ne_b12_b22 : b12 ≠ b22 := Nat.ne_of_lt (Nat.lt_of_lt_of_le (V17_1).lt (Nat.le_of_eq g22.symm))
  have V30_3 := V28_3.other W30 (Ne.symm ne_b12_b22)
  have ne_b12_b28 : b12 ≠ b28 := Nat.ne_of_lt (Nat.lt_of_lt_of_le (V24_1).lt (Nat.le_of_eq g28.symm))
  have V30_4 := V_b28.other W30 (Ne.symm ne_b12_b28)
  have z30 : n0 ≤ h30.size := by rw [W30.size]; exact z28
  have K30 : Keep h0 h30 [a] := K28.wr W30 (Or.inr sz_b12)
  have N30 := Fr.snoc X30 N27 g_b12
  have pre31 : ∀ tt_, Steps p.tables e below (T30.setTop (mkF m 137 #[.val (.ref a), .val (.long q), .second, .val (.int (1 : Int32)), .val (.int lw), .val (.int (0 : Int32)), .val (.int lw)] [])) tt_ → Steps p.tables e below (s₁.setTop (entryFrame m #[(.ref a), (.long q)] 7)) tt_ := fun tt_ kk_ => pre25 tt_ (by
    show Steps p.tables e below (T24.setTop (mkF m 118 #[.val (.ref a), .val (.long q), .second, .val (.int (1 : Int32)), .val (.int lw), .val (.int (0 : Int32)), .val (.int lw)] [])) _
    refine XS.aloadN X24.here hx rfl (hb hby own_d_prog_35_method_1_code_118) rfl rfl ?_
    refine st26 _ ?_
    refine XS.iload X26.here hx rfl (hb hby own_d_prog_35_method_1_code_122) rfl ?_
    refine XS.iload X26.here hx rfl (hb hby own_d_prog_35_method_1_code_124) rfl ?_
    show Steps p.tables e below (T26.setTop (mkF m 126 #[.val (.ref a), .val (.long q), .second, .val (.int (1 : Int32)), .val (.int lw), .val (.int (0 : Int32)), .val (.int lw)] [(.int lw), (.int (0 : Int32)), (.ref b12)])) _
    refine XS.sipush X26.here hx rfl (hb hby own_d_prog_35_method_1_code_126) ?_
    refine XS.isub X26.here hx rfl (hb hby own_d_prog_35_method_1_code_129) rfl ?_
    refine XS.iconst X26.here hx rfl (hb hby own_d_prog_35_method_1_code_130) ?_
    show Steps p.tables e below (T26.setTop (mkF m 131 #[.val (.ref a), .val (.long q), .second, .val (.int (1 : Int32)), .val (.int lw), .val (.int (0 : Int32)), .val (.int lw)] [(.int (0 : Int32)), (.int (lw - (32764 : Int32))), (.int (0 : Int32)), (.ref b12)])) _
    refine st27 _ ?_
    refine st28 _ ?_
    refine st30 _ ?_
    exact kk_)
  obtain ⟨T32, X32, e32, st32⟩ := getF X30 hx hZ hown (host := "") (Or.inl (hw _ (List.mem_of_getElem? (i := 22) rfl))) Via.refl e30 F30_3 (g := (mkF m 138 #[.val (.ref a), .val (.long q), .second, .val (.int (1 : Int32)), .val (.int lw), .val (.int (0 : Int32)), .val (.int lw)] [(.ref a)])) rfl rfl (hb hby own_d_prog_35_method_1_code_138)
  have fold33 : ((2 : Int32) * (0 : Int32)) = (0 : Int32) := by decide +kernel
  obtain ⟨T34, X34, e34, st34⟩ := getF X32 hx hZ hown (host := "") (Or.inl (hw _ (List.mem_of_getElem? (i := 18) rfl))) Via.refl e32 F30_1 (g := (mkF m 146 #[.val (.ref a), .val (.long q), .second, .val (.int (1 : Int32)), .val (.int lw), .val (.int (0 : Int32)), .val (.int lw)] [(.ref a), (.int (0 : Int32)), (.ref b16)])) rfl rfl (hb hby own_d_prog_35_method_1_code_146)
  obtain ⟨cl35, Ar35, q35, S35, M35, H35, G35⟩ := id V30_0
  have hin35 : ¬ ((0 : Int32) < 0 ∨ cl35.slots.size ≤ ((0 : Int32)).toNatClampNeg) := inb_of S35 ⟨by decide, by decide⟩
  have hat35 : cl35.slots[((0 : Int32)).toNatClampNeg]? = some (.ref b22) := Has.at H35 hin35 rfl
  obtain ⟨cl36, Ar36, q36, S36, M36, H36, G36⟩ := id V30_2
  have hin36 : ¬ ((0 : Int32) < 0 ∨ cl36.slots.size ≤ ((0 : Int32)).toNatClampNeg) := inb_of S36 ⟨by decide, by decide⟩
  obtain ⟨T37, h37, X37, e37, W37, st37⟩ := stR X34 hx hZ e34 Ar36 (j := (0 : Int32)) hin36 rfl (own_stoA Ar36 q36 O16 (Ins.self X30_1)) (g := (mkF m 152 #[.val (.ref a), .val (.long q), .second, .val (.int (1 : Int32)), .val (.int lw), .val (.int (0 : Int32)), .val (.int lw)] [(.ref b22), (.int (0 : Int32)), (.ref b16)])) rfl rfl (hb hby own_d_prog_35_method_1_code_152)
  have V_b16_37 : Arv Z h37 b16 k16 (.array .long) (2 : Int32) [(.ref b22), .null] .null := Arv.set Ar36 q36 S36 M36 H36 G36 rfl W37 0 rfl (Nat.le_of_ble_eq_true rfl)
  have F37_0 := F30_0.other W37 (Or.inl ne_a_b16)
  have F37_1 := F30_1.other W37 (Or.inl ne_a_b16)
  have F37_2 := F30_2.other W37 (Or.inl ne_a_b16)
  have F37_3 := F30_3.other W37 (Or.inl ne_a_b16)
  have X37_0 := X30_0.wr W37
  have X37_1 := X30_1.wr W37
  have X37_2 := X30_2.wr W37
  have S37_0 := S30_0.wr W37
  have V37_0 := V30_0.other W37 ne_b10_b16
  have V37_1 := V_b12_30.other W37 ne_b12_b16
  have ne_b16_b22 : b16 ≠ b22 := Nat.ne_of_lt (Nat.lt_of_lt_of_le (V17_2).lt (Nat.le_of_eq g22.symm))
  have V37_3 := V30_3.other W37 (Ne.symm ne_b16_b22)
  have ne_b16_b28 : b16 ≠ b28 := Nat.ne_of_lt (Nat.lt_of_lt_of_le (V24_2).lt (Nat.le_of_eq g28.symm))
  have V37_4 := V30_4.other W37 (Ne.symm ne_b16_b28)
  have z37 : n0 ≤ h37.size := by rw [W37.size]; exact z30
  have K37 : Keep h0 h37 [a] := K30.wr W37 (Or.inr sz_b16)
  have N37 := Fr.snoc X37 N30 g_b16
  have pre38 : ∀ tt_, Steps p.tables e below (T37.setTop (mkF m 153 #[.val (.ref a), .val (.long q), .second, .val (.int (1 : Int32)), .val (.int lw), .val (.int (0 : Int32)), .val (.int lw)] [])) tt_ → Steps p.tables e below (s₁.setTop (entryFrame m #[(.ref a), (.long q)] 7)) tt_ := fun tt_ kk_ => pre31 tt_ (by
    show Steps p.tables e below (T30.setTop (mkF m 137 #[.val (.ref a), .val (.long q), .second, .val (.int (1 : Int32)), .val (.int lw), .val (.int (0 : Int32)), .val (.int lw)] [])) _
    refine XS.aloadN X30.here hx rfl (hb hby own_d_prog_35_method_1_code_137) rfl rfl ?_
    refine st32 _ ?_
    refine XS.iconst X32.here hx rfl (hb hby own_d_prog_35_method_1_code_141) ?_
    refine XS.iload X32.here hx rfl (hb hby own_d_prog_35_method_1_code_142) rfl ?_
    show Steps p.tables e below (T32.setTop (mkF m 144 #[.val (.ref a), .val (.long q), .second, .val (.int (1 : Int32)), .val (.int lw), .val (.int (0 : Int32)), .val (.int lw)] [(.int (0 : Int32)), (.int (2 : Int32)), (.ref b16)])) _
    refine XS.imul X32.here hx rfl (hb hby own_d_prog_35_method_1_code_144) rfl ?_
    show Steps p.tables e below (T32.setTop (mkF m 145 #[.val (.ref a), .val (.long q), .second, .val (.int (1 : Int32)), .val (.int lw), .val (.int (0 : Int32)), .val (.int lw)] [(.int ((2 : Int32) * (0 : Int32))), (.ref b16)])) _
    rw [fold33]
    show Steps p.tables e below (T32.setTop (mkF m 145 #[.val (.ref a), .val (.long q), .second, .val (.int (1 : Int32)), .val (.int lw), .val (.int (0 : Int32)), .val (.int lw)] [(.int (0 : Int32)), (.ref b16)])) _
    refine XS.aloadN X32.here hx rfl (hb hby own_d_prog_35_method_1_code_145) rfl rfl ?_
    refine st34 _ ?_
    refine XS.iload X34.here hx rfl (hb hby own_d_prog_35_method_1_code_149) rfl ?_
    refine X34.aaload hx (j := (0 : Int32)) (v := (.ref b22)) (by rw [e34]; exact Ar35.1) (State.isArrayOf_alike hZ.alike Ar35.2.1) rfl Ar35.2.2 hin35 hat35 (g := (mkF m 151 #[.val (.ref a), .val (.long q), .second, .val (.int (1 : Int32)), .val (.int lw), .val (.int (0 : Int32)), .val (.int lw)] [(.int (0 : Int32)), (.ref b10), (.int (0 : Int32)), (.ref b16)])) rfl rfl (hb hby own_d_prog_35_method_1_code_151) _ ?_
    refine st37 _ ?_
    exact kk_)
  obtain ⟨T39, X39, e39, st39⟩ := getF X37 hx hZ hown (host := "") (Or.inl (hw _ (List.mem_of_getElem? (i := 22) rfl))) Via.refl e37 F37_3 (g := (mkF m 162 #[.val (.ref a), .val (.long q), .second, .val (.int (1 : Int32)), .val (.int lw), .val (.int (0 : Int32)), .val (.int lw)] [(.ref a)])) rfl rfl (hb hby own_d_prog_35_method_1_code_162)
  have fold40 : ((2 : Int32) * (0 : Int32)) = (0 : Int32) := by decide +kernel
  have fold41 : ((0 : Int32) + (1 : Int32)) = (1 : Int32) := by decide +kernel
  obtain ⟨T42, X42, e42, st42⟩ := getF X39 hx hZ hown (host := "") (Or.inl (hw _ (List.mem_of_getElem? (i := 20) rfl))) Via.refl e39 F37_2 (g := (mkF m 172 #[.val (.ref a), .val (.long q), .second, .val (.int (1 : Int32)), .val (.int lw), .val (.int (0 : Int32)), .val (.int lw)] [(.ref a), (.int (1 : Int32)), (.ref b16)])) rfl rfl (hb hby own_d_prog_35_method_1_code_172)
  obtain ⟨cl43, Ar43, q43, S43, M43, H43, G43⟩ := id V37_1
  have hin43 : ¬ ((0 : Int32) < 0 ∨ cl43.slots.size ≤ ((0 : Int32)).toNatClampNeg) := inb_of S43 ⟨by decide, by decide⟩
  have hat43 : cl43.slots[((0 : Int32)).toNatClampNeg]? = some (.ref b28) := Has.at H43 hin43 rfl
  obtain ⟨cl44, Ar44, q44, S44, M44, H44, G44⟩ := id V_b16_37
  have hin44 : ¬ ((1 : Int32) < 0 ∨ cl44.slots.size ≤ ((1 : Int32)).toNatClampNeg) := inb_of S44 ⟨by decide, by decide⟩
  obtain ⟨T45, h45, X45, e45, W45, st45⟩ := stR X42 hx hZ e42 Ar44 (j := (1 : Int32)) hin44 rfl (own_stoA Ar44 q44 O16 (Ins.self X37_2)) (g := (mkF m 178 #[.val (.ref a), .val (.long q), .second, .val (.int (1 : Int32)), .val (.int lw), .val (.int (0 : Int32)), .val (.int lw)] [(.ref b28), (.int (1 : Int32)), (.ref b16)])) rfl rfl (hb hby own_d_prog_35_method_1_code_178)
  have V_b16_45 : Arv Z h45 b16 k16 (.array .long) (2 : Int32) [(.ref b22), (.ref b28)] .null := Arv.set Ar44 q44 S44 M44 H44 G44 rfl W45 1 rfl (Nat.le_of_ble_eq_true rfl)
  have F45_0 := F37_0.other W45 (Or.inl ne_a_b16)
  have F45_1 := F37_1.other W45 (Or.inl ne_a_b16)
  have F45_2 := F37_2.other W45 (Or.inl ne_a_b16)
  have F45_3 := F37_3.other W45 (Or.inl ne_a_b16)
  have X45_0 := X37_0.wr W45
  have X45_1 := X37_1.wr W45
  have X45_2 := X37_2.wr W45
  have S45_0 := S37_0.wr W45
  have V45_0 := V37_0.other W45 ne_b10_b16
  have V45_1 := V37_1.other W45 ne_b12_b16
  have V45_3 := V37_3.other W45 (Ne.symm ne_b16_b22)
  have V45_4 := V37_4.other W45 (Ne.symm ne_b16_b28)
  have z45 : n0 ≤ h45.size := by rw [W45.size]; exact z37
  have K45 : Keep h0 h45 [a] := K37.wr W45 (Or.inr sz_b16)
  have N45 := Fr.snoc X45 N37 g_b16
  have fold46 : ((0 : Int32) + (1 : Int32)) = (1 : Int32) := by decide +kernel
  have pre47 : ∀ tt_, Steps p.tables e below (T45.setTop (mkF m 78 #[.val (.ref a), .val (.long q), .second, .val (.int (1 : Int32)), .val (.int lw), .val (.int (1 : Int32)), .val (.int lw)] [])) tt_ → Steps p.tables e below (s₁.setTop (entryFrame m #[(.ref a), (.long q)] 7)) tt_ := fun tt_ kk_ => pre38 tt_ (by
    show Steps p.tables e below (T37.setTop (mkF m 153 #[.val (.ref a), .val (.long q), .second, .val (.int (1 : Int32)), .val (.int lw), .val (.int (0 : Int32)), .val (.int lw)] [])) _
    refine XS.iload X37.here hx rfl (hb hby own_d_prog_35_method_1_code_153) rfl ?_
    refine XS.sipush X37.here hx rfl (hb hby own_d_prog_35_method_1_code_155) ?_
    show Steps p.tables e below (T37.setTop (mkF m 158 #[.val (.ref a), .val (.long q), .second, .val (.int (1 : Int32)), .val (.int lw), .val (.int (0 : Int32)), .val (.int lw)] [(.int (32764 : Int32)), (.int lw)])) _
    refine XS.icmpNo X37.here hx rfl (hb hby own_d_prog_35_method_1_code_158) rfl (tlt (ht : (32764 : Int32) < lw)).2.2.2 ?_
    refine XS.aloadN X37.here hx rfl (hb hby own_d_prog_35_method_1_code_161) rfl rfl ?_
    refine st39 _ ?_
    refine XS.iconst X39.here hx rfl (hb hby own_d_prog_35_method_1_code_165) ?_
    refine XS.iload X39.here hx rfl (hb hby own_d_prog_35_method_1_code_166) rfl ?_
    refine XS.imul X39.here hx rfl (hb hby own_d_prog_35_method_1_code_168) rfl ?_
    show Steps p.tables e below (T39.setTop (mkF m 169 #[.val (.ref a), .val (.long q), .second, .val (.int (1 : Int32)), .val (.int lw), .val (.int (0 : Int32)), .val (.int lw)] [(.int ((2 : Int32) * (0 : Int32))), (.ref b16)])) _
    rw [fold40]
    show Steps p.tables e below (T39.setTop (mkF m 169 #[.val (.ref a), .val (.long q), .second, .val (.int (1 : Int32)), .val (.int lw), .val (.int (0 : Int32)), .val (.int lw)] [(.int (0 : Int32)), (.ref b16)])) _
    refine XS.iconst X39.here hx rfl (hb hby own_d_prog_35_method_1_code_169) ?_
    show Steps p.tables e below (T39.setTop (mkF m 170 #[.val (.ref a), .val (.long q), .second, .val (.int (1 : Int32)), .val (.int lw), .val (.int (0 : Int32)), .val (.int lw)] [(.int (1 : Int32)), (.int (0 : Int32)), (.ref b16)])) _
    refine XS.iadd X39.here hx rfl (hb hby own_d_prog_35_method_1_code_170) rfl ?_
    show Steps p.tables e below (T39.setTop (mkF m 171 #[.val (.ref a), .val (.long q), .second, .val (.int (1 : Int32)), .val (.int lw), .val (.int (0 : Int32)), .val (.int lw)] [(.int ((0 : Int32) + (1 : Int32))), (.ref b16)])) _
    rw [fold41]
    show Steps p.tables e below (T39.setTop (mkF m 171 #[.val (.ref a), .val (.long q), .second, .val (.int (1 : Int32)), .val (.int lw), .val (.int (0 : Int32)), .val (.int lw)] [(.int (1 : Int32)), (.ref b16)])) _
    refine XS.aloadN X39.here hx rfl (hb hby own_d_prog_35_method_1_code_171) rfl rfl ?_
    refine st42 _ ?_
    refine XS.iload X42.here hx rfl (hb hby own_d_prog_35_method_1_code_175) rfl ?_
    refine X42.aaload hx (j := (0 : Int32)) (v := (.ref b28)) (by rw [e42]; exact Ar43.1) (State.isArrayOf_alike hZ.alike Ar43.2.1) rfl Ar43.2.2 hin43 hat43 (g := (mkF m 177 #[.val (.ref a), .val (.long q), .second, .val (.int (1 : Int32)), .val (.int lw), .val (.int (0 : Int32)), .val (.int lw)] [(.int (0 : Int32)), (.ref b12), (.int (1 : Int32)), (.ref b16)])) rfl rfl (hb hby own_d_prog_35_method_1_code_177) _ ?_
    refine st45 _ ?_
    refine XS.iinc X45.here hx rfl (hb hby own_d_prog_35_method_1_code_179) rfl (l' := #[.val (.ref a), .val (.long q), .second, .val (.int (1 : Int32)), .val (.int lw), .val (.int ((0 : Int32) + (1 : Int32))), .val (.int lw)]) rfl ?_
    show Steps p.tables e below (T45.setTop (mkF m 182 #[.val (.ref a), .val (.long q), .second, .val (.int (1 : Int32)), .val (.int lw), .val (.int ((0 : Int32) + (1 : Int32))), .val (.int lw)] [])) _
    rw [fold46]
    show Steps p.tables e below (T45.setTop (mkF m 182 #[.val (.ref a), .val (.long q), .second, .val (.int (1 : Int32)), .val (.int lw), .val (.int (1 : Int32)), .val (.int lw)] [])) _
    refine XS.goto X45.here hx rfl (pc0 := 182) (pc' := 78) rfl (hb hby own_d_prog_35_method_1_code_182) (by decide) (by decide) ?_
    exact kk_)
  have pre48 : ∀ tt_, Steps p.tables e below (T45.setTop (mkF m 185 #[.val (.ref a), .val (.long q), .second, .val (.int (1 : Int32)), .val (.int lw), .val (.int (1 : Int32)), .val (.int lw)] [])) tt_ → Steps p.tables e below (s₁.setTop (entryFrame m #[(.ref a), (.long q)] 7)) tt_ := fun tt_ kk_ => pre47 tt_ (by
    show Steps p.tables e below (T45.setTop (mkF m 78 #[.val (.ref a), .val (.long q), .second, .val (.int (1 : Int32)), .val (.int lw), .val (.int (1 : Int32)), .val (.int lw)] [])) _
    refine XS.iload X45.here hx rfl (hb hby own_d_prog_35_method_1_code_78) rfl ?_
    refine XS.iloadN X45.here hx rfl (hb hby own_d_prog_35_method_1_code_80) rfl ?_
    refine XS.icmpYes X45.here hx rfl (pc0 := 81) (pc' := 185) rfl (hb hby own_d_prog_35_method_1_code_81) rfl (flt ((by decide) : ¬ ((1 : Int32) < (1 : Int32)))).2.1 (by decide) (by decide) ?_
    exact kk_)
  obtain ⟨fs, hr, hrun, hended, hW, hsame⟩ := X45.leave (v := none) (fun _ => rfl)
  refine ⟨_, _, pre48 _ ?_, hrun, hended, _, _, rfl, ?_, ⟨_, rfl⟩, hW, hsame.mono (by decide) (by decide)⟩
  · show Steps p.tables e below (T45.setTop (mkF m 185 #[.val (.ref a), .val (.long q), .second, .val (.int (1 : Int32)), .val (.int lw), .val (.int (1 : Int32)), .val (.int lw)] [])) _
    exact X45.returnOut hx Bd.returns (hb hby own_d_prog_35_method_1_code_185) hr
  · show QI Z a 1 lw h0 n0 _ T45.heap _
    rw [e45]
    have H1 : ∀ pg : Nat, pg < 1 → ∃ r, ([(.ref b22)] : List Value).getD pg .null = .ref r ∧ ([(.ref b22), (.ref b28)] : List Value).getD (2 * pg) .null = .ref r ∧ own_Len Z h45 r .long (own_lenH 1 lw pg) := by
      intro pg hp
      obtain rfl := own_lt1 hp
      · exact ⟨b22, rfl, rfl, own_Len.of (Arv.arh V45_3)⟩
    have H2 : ∀ pg : Nat, pg < 1 → (pg + 1 < 1 ∨ (32764 : Int32) < lw) → ∃ r, ([(.ref b28)] : List Value).getD pg .null = .ref r ∧ ([(.ref b22), (.ref b28)] : List Value).getD (2 * pg + 1) .null = .ref r ∧ own_Len Z h45 r .long (own_lenT 1 lw pg) := by
      intro pg hp hq
      obtain rfl := own_lt1 hp
      · exact ⟨b28, rfl, rfl, own_Len.of (Arv.arh V45_4)⟩
    exact ⟨rfl, N45, K45, b10, _, _, b12, _, _, b16, _, _, _, F45_1, F45_2, F45_3, V45_0, V45_1, V_b16_45, by rw [if_pos ht]; decide, H1, H2⟩
theorem own_ef_rmI_1_0 (m : MethodId) (y0 : Addr) (y1 : Int64) : entryFrame m #[(.ref y0), (.long y1)] 7 = mkF m 0 #[.val (.ref y0), .val (.long y1), .second, .unset, .unset, .unset, .unset] [] := by first | (simp [entryFrame, mkF, argsToLocals, Value.category]; done) | rfl
set_option maxRecDepth 65536 in
set_option maxHeartbeats 40000000 in
theorem rmI_1_0 (l : Launch) (Z : State) (a0 : Array Value) (hw : ∀ d ∈ tables_1, d.before a0 Z = true) (ws : List Jvm.Cond) (a : Addr) (q : Int64) (lw : Int32) (h0 : Heap) (n0 : Nat) (Z0 : n0 ≤ h0.size) (E_a : Exa Z h0 a "com/example/elderflower/elderflower/PagedWords") (g_a : n0 ≤ a) (F_size : Fld Z h0 a "com/example/elderflower/elderflower/PagedWords" "size" "J" (.long (0 : Int64))) (F_heads : Fld Z h0 a "com/example/elderflower/elderflower/PagedWords" "heads" "[[J" .null) (F_tails : Fld Z h0 a "com/example/elderflower/elderflower/PagedWords" "tails" "[[J" .null) (F_arrays : Fld Z h0 a "com/example/elderflower/elderflower/PagedWords" "arrays" "[[J" .null) (S_PAGE_SHIFT : Sta Z h0 "com/example/elderflower/elderflower/PagedWords" "PAGE_SHIFT" "I" (.int (15 : Int32))) (hpg : ((((q + (32768 : Int64)) - (1 : Int64)).toUInt64 >>> ((15 : Int32) &&& 0x3f).toInt64.toUInt64).toInt64).toInt32 = Int32.ofNat 1) (hlw : (q - Int64.ofNat ((1 - 1) * 32768)).toInt32 = lw) (hlb : own_LW lw) (ht : ¬ (32764 : Int32) < lw) :
    MetFree l (⟨"com/example/elderflower/elderflower/PagedWords", "<init>", "(J)V"⟩ : MethodName) (head1 (Jvm.Cond.code (⟨"com/example/elderflower/elderflower/PagedWords", "<init>", "(J)V"⟩ : MethodName) prog_35_method_1_code 7 none :: ws) ({ frames := 1, cells := 11, slots := 131088, locals := 15 } : Room)) (fun ar_ U => ar_ = #[(.ref a), (.long q)] ∧ Z.Warmed39 U.vm ∧ U.heap = h0) (fun _ _ _ _ _ => True) (fun _ U o U' => ∃ v L, o = .returned v ∧ QI Z a 1 lw h0 n0 v U'.heap L ∧ FrameEnd U o U' L ({ frames := 1, cells := 11, slots := 131088, locals := 15 } : Room).cells ({ frames := 1, cells := 11, slots := 131088, locals := 15 } : Room).slots) := by
  refine MetFree.of_bodySF (plainFor_of_name own_pn0) hisR ?_
  intro p e s m args below meth c s₁ Bd hml0 hP hK
  obtain ⟨rfl, hZ, hh⟩ := hP
  have hx := Bd.exec
  have hby := Bd.bytes
  have hml : c.maxLocals = 7 := hml0
  have hown : s.vm.findClass "com/example/elderflower/elderflower/PagedWords" = some m.cls := findClass_of_methodNamed Bd.named
  have hnm := (name_of_methodNamed Bd.named Bd.method).1
  have X0 : Stand p l e ({ frames := 1, cells := 11, slots := 131088, locals := 15 } : Room) s m #[(.ref a), (.long q)] below meth c s₁ [] 0 0 := Stand.of_body Bd
  have e0 : s₁.heap = h0 := by rw [← hh, Bd.state]; rfl
  have N0 := Fr.nil n0
  have pre0 : ∀ tt_, Steps p.tables e below (s₁.setTop (mkF m 0 #[.val (.ref a), .val (.long q), .second, .unset, .unset, .unset, .unset] [])) tt_ → Steps p.tables e below (s₁.setTop (entryFrame m #[(.ref a), (.long q)] 7)) tt_ := fun tt_ kk_ => castTop (own_ef_rmI_1_0 m a q) kk_
  obtain ⟨T1, X1, e1, st1⟩ := initO X0 hx hZ hown (hw _ (List.mem_of_getElem? (i := 8) rfl)) (hw _ (List.mem_of_getElem? (i := 9) rfl)) (hw _ (List.mem_of_getElem? (i := 10) rfl)) e0 (g := (mkF m 1 #[.val (.ref a), .val (.long q), .second, .unset, .unset, .unset, .unset] [(.ref a)])) rfl (by rw [hml]; rfl) rfl (hb hby own_d_prog_35_method_1_code_1) (by decide) (W := 0) (by show 2 * 0 + _ ≤ _; exact Nat.le_of_eq rfl) (by decide)
  obtain ⟨T2, X2, e2, st2⟩ := getS2 X1 hx hZ hown (host := "") (Or.inl (hw _ (List.mem_of_getElem? (i := 12) rfl))) Via.refl e1 S_PAGE_SHIFT (g := (mkF m 11 #[.val (.ref a), .val (.long q), .second, .unset, .unset, .unset, .unset] [(.long ((q + (32768 : Int64)) - (1 : Int64)))])) rfl (hb hby own_d_prog_35_method_1_code_11)
  have hpg' : (((((q + (32768 : Int64)) - (1 : Int64)).toUInt64 >>> ((15 : Int32) &&& 0x3f).toInt64.toUInt64).toInt64).toInt32) = (1 : Int32) := hpg
  have pre3 : ∀ tt_, Steps p.tables e below (T2.setTop (mkF m 16 #[.val (.ref a), .val (.long q), .second, .unset, .unset, .unset, .unset] [(.int (((((q + (32768 : Int64)) - (1 : Int64)).toUInt64 >>> ((15 : Int32) &&& 0x3f).toInt64.toUInt64).toInt64).toInt32))])) tt_ → Steps p.tables e below (s₁.setTop (entryFrame m #[(.ref a), (.long q)] 7)) tt_ := fun tt_ kk_ => pre0 tt_ (by
    show Steps p.tables e below (s₁.setTop (mkF m 0 #[.val (.ref a), .val (.long q), .second, .unset, .unset, .unset, .unset] [])) _
    refine XS.aloadN X0.here hx rfl (hb hby own_d_prog_35_method_1_code_0) rfl rfl ?_
    refine st1 _ ?_
    refine XS.lloadN X1.here hx rfl (hb hby own_d_prog_35_method_1_code_4) rfl ?_
    refine X1.ldc2Long hx hown (mvT hZ (hw _ (List.mem_of_getElem? (i := 11) rfl))) (g := (mkF m 5 #[.val (.ref a), .val (.long q), .second, .unset, .unset, .unset, .unset] [(.long q)])) rfl (hb hby own_d_prog_35_method_1_code_5) _ ?_
    refine XS.ladd X1.here hx rfl (hb hby own_d_prog_35_method_1_code_8) rfl ?_
    refine XS.lconst X1.here hx rfl (hb hby own_d_prog_35_method_1_code_9) ?_
    show Steps p.tables e below (T1.setTop (mkF m 10 #[.val (.ref a), .val (.long q), .second, .unset, .unset, .unset, .unset] [(.long (1 : Int64)), (.long (q + (32768 : Int64)))])) _
    refine XS.lsub X1.here hx rfl (hb hby own_d_prog_35_method_1_code_10) rfl ?_
    refine st2 _ ?_
    refine XS.lushr X2.here hx rfl (hb hby own_d_prog_35_method_1_code_14) rfl ?_
    refine XS.l2i X2.here hx rfl (hb hby own_d_prog_35_method_1_code_15) rfl ?_
    exact kk_)
  rw [hpg'] at pre3
  have fold4 : ((1 : Int32) - (1 : Int32)) = (0 : Int32) := by decide +kernel
  have fold5 : ((0 : Int32).toInt64) = (0 : Int64) := by decide +kernel
  obtain ⟨T6, X6, e6, st6⟩ := getS2 X2 hx hZ hown (host := "") (Or.inl (hw _ (List.mem_of_getElem? (i := 12) rfl))) Via.refl e2 S_PAGE_SHIFT (g := (mkF m 22 #[.val (.ref a), .val (.long q), .second, .val (.int (1 : Int32)), .unset, .unset, .unset] [(.long (0 : Int64)), (.long q)])) rfl (hb hby own_d_prog_35_method_1_code_22)
  have fold7 : ((0 : Int64) <<< ((15 : Int32) &&& 0x3f).toInt64) = (0 : Int64) := by decide +kernel
  have hlw' : ((q - (0 : Int64)).toInt32) = lw := by rw [← hlw]; rfl
  have pre8 : ∀ tt_, Steps p.tables e below (T6.setTop (mkF m 28 #[.val (.ref a), .val (.long q), .second, .val (.int (1 : Int32)), .unset, .unset, .unset] [(.int ((q - (0 : Int64)).toInt32))])) tt_ → Steps p.tables e below (s₁.setTop (entryFrame m #[(.ref a), (.long q)] 7)) tt_ := fun tt_ kk_ => pre3 tt_ (by
    show Steps p.tables e below (T2.setTop (mkF m 16 #[.val (.ref a), .val (.long q), .second, .unset, .unset, .unset, .unset] [(.int (1 : Int32))])) _
    refine XS.istoreN X2.here hx rfl (hb hby own_d_prog_35_method_1_code_16) rfl (l' := #[.val (.ref a), .val (.long q), .second, .val (.int (1 : Int32)), .unset, .unset, .unset]) rfl ?_
    refine XS.lloadN X2.here hx rfl (hb hby own_d_prog_35_method_1_code_17) rfl ?_
    refine XS.iloadN X2.here hx rfl (hb hby own_d_prog_35_method_1_code_18) rfl ?_
    show Steps p.tables e below (T2.setTop (mkF m 19 #[.val (.ref a), .val (.long q), .second, .val (.int (1 : Int32)), .unset, .unset, .unset] [(.int (1 : Int32)), (.long q)])) _
    refine XS.iconst X2.here hx rfl (hb hby own_d_prog_35_method_1_code_19) ?_
    refine XS.isub X2.here hx rfl (hb hby own_d_prog_35_method_1_code_20) rfl ?_
    show Steps p.tables e below (T2.setTop (mkF m 21 #[.val (.ref a), .val (.long q), .second, .val (.int (1 : Int32)), .unset, .unset, .unset] [(.int ((1 : Int32) - (1 : Int32))), (.long q)])) _
    rw [fold4]
    show Steps p.tables e below (T2.setTop (mkF m 21 #[.val (.ref a), .val (.long q), .second, .val (.int (1 : Int32)), .unset, .unset, .unset] [(.int (0 : Int32)), (.long q)])) _
    refine XS.i2l X2.here hx rfl (hb hby own_d_prog_35_method_1_code_21) rfl ?_
    show Steps p.tables e below (T2.setTop (mkF m 22 #[.val (.ref a), .val (.long q), .second, .val (.int (1 : Int32)), .unset, .unset, .unset] [(.long ((0 : Int32).toInt64)), (.long q)])) _
    rw [fold5]
    show Steps p.tables e below (T2.setTop (mkF m 22 #[.val (.ref a), .val (.long q), .second, .val (.int (1 : Int32)), .unset, .unset, .unset] [(.long (0 : Int64)), (.long q)])) _
    refine st6 _ ?_
    refine XS.lshl X6.here hx rfl (hb hby own_d_prog_35_method_1_code_25) rfl ?_
    show Steps p.tables e below (T6.setTop (mkF m 26 #[.val (.ref a), .val (.long q), .second, .val (.int (1 : Int32)), .unset, .unset, .unset] [(.long ((0 : Int64) <<< ((15 : Int32) &&& 0x3f).toInt64)), (.long q)])) _
    rw [fold7]
    show Steps p.tables e below (T6.setTop (mkF m 26 #[.val (.ref a), .val (.long q), .second, .val (.int (1 : Int32)), .unset, .unset, .unset] [(.long (0 : Int64)), (.long q)])) _
    refine XS.lsub X6.here hx rfl (hb hby own_d_prog_35_method_1_code_26) rfl ?_
    refine XS.l2i X6.here hx rfl (hb hby own_d_prog_35_method_1_code_27) rfl ?_
    exact kk_)
  rw [hlw'] at pre8
  obtain ⟨T9, h9, X9, e9, W9, st9⟩ := putF X6 hx hZ hown (host := "") (Or.inl (hw _ (List.mem_of_getElem? (i := 14) rfl))) Via.refl e6 F_size E_a (Or.inr ⟨(hw _ (List.mem_of_getElem? (i := 15) rfl)), rfl, hnm⟩) (hw _ (List.mem_of_getElem? (i := 3) rfl)) (ty := .long) (by decide) rfl rfl (g := (mkF m 32 #[.val (.ref a), .val (.long q), .second, .val (.int (1 : Int32)), .val (.int lw), .unset, .unset] [(.long q), (.ref a)])) rfl rfl (hb hby own_d_prog_35_method_1_code_32)
  have F9_0 := F_size.same W9
  have F9_1 := F_heads.other W9 (Or.inr (slot_ne (Or.inr (hw _ (List.mem_of_getElem? (i := 19) rfl))) (Or.inr (hw _ (List.mem_of_getElem? (i := 15) rfl))) (by decide) (t := (.array (.array .long))) (t' := .long) (by decide) (by decide)))
  have F9_2 := F_tails.other W9 (Or.inr (slot_ne (Or.inr (hw _ (List.mem_of_getElem? (i := 21) rfl))) (Or.inr (hw _ (List.mem_of_getElem? (i := 15) rfl))) (by decide) (t := (.array (.array .long))) (t' := .long) (by decide) (by decide)))
  have F9_3 := F_arrays.other W9 (Or.inr (slot_ne (Or.inr (hw _ (List.mem_of_getElem? (i := 23) rfl))) (Or.inr (hw _ (List.mem_of_getElem? (i := 15) rfl))) (by decide) (t := (.array (.array .long))) (t' := .long) (by decide) (by decide)))
  have X9_0 := E_a.wr W9
  have S9_0 := S_PAGE_SHIFT.wr W9
  have z9 : n0 ≤ h9.size := by rw [W9.size]; exact Z0
  have K9 : Keep h0 h9 [a] := (Keep.refl h0 [a]).wr W9 (Or.inl (by simp))
  have N9 := Fr.snoc X9 N0 g_a
  obtain ⟨T10, h10, k10, X10, e10, E10, A10, O10, st10⟩ := own_newRA X9 hx hZ hown (hw _ (List.mem_of_getElem? (i := 16) rfl)) (hw _ (List.mem_of_getElem? (i := 17) rfl)) (by decide +kernel) e9 (g := (mkF m 37 #[.val (.ref a), .val (.long q), .second, .val (.int (1 : Int32)), .val (.int lw), .unset, .unset] [(.int (1 : Int32)), (.ref a)])) rfl (hb hby own_d_prog_35_method_1_code_37) rfl (by decide) (cap := 1) (by decide) (by decide) (by decide) (by decide)
  obtain ⟨b10, g10⟩ : ∃ z, z = h9.size := ⟨_, rfl⟩
  rw [← g10] at A10 st10
  have g_b10 : n0 ≤ b10 := Nat.le_trans z9 (Nat.le_of_eq g10.symm)
  have sz_b10 : h0.size ≤ b10 := Nat.le_trans K9.1 (Nat.le_of_eq g10.symm)
  have F10_0 := F9_0.ext E10
  have F10_1 := F9_1.ext E10
  have F10_2 := F9_2.ext E10
  have F10_3 := F9_3.ext E10
  have X10_0 := X9_0.ext E10
  have S10_0 := S9_0.ext E10
  have z10 : n0 ≤ h10.size := Nat.le_trans z9 E10.1
  have K10 : Keep h0 h10 [a] := K9.ext E10
  have V_b10 : Arv Z h10 b10 k10 (.array .long) (1 : Int32) [.null] .null := (Arv.new A10 (by decide)).pad (pad_rep [] .null 1)
  obtain ⟨T11, h11, X11, e11, W11, st11⟩ := putF X10 hx hZ hown (host := "") (Or.inl (hw _ (List.mem_of_getElem? (i := 18) rfl))) Via.refl e10 F10_1 X10_0 (Or.inr ⟨(hw _ (List.mem_of_getElem? (i := 19) rfl)), rfl, hnm⟩) (hw _ (List.mem_of_getElem? (i := 3) rfl)) (ty := (.array (.array .long))) (by decide) rfl rfl (g := (mkF m 40 #[.val (.ref a), .val (.long q), .second, .val (.int (1 : Int32)), .val (.int lw), .unset, .unset] [(.ref b10), (.ref a)])) rfl rfl (hb hby own_d_prog_35_method_1_code_40)
  have F11_0 := F10_0.other W11 (Or.inr (slot_ne (Or.inr (hw _ (List.mem_of_getElem? (i := 15) rfl))) (Or.inr (hw _ (List.mem_of_getElem? (i := 19) rfl))) (by decide) (t := .long) (t' := (.array (.array .long))) (by decide) (by decide)))
  have F11_1 := F10_1.same W11
  have F11_2 := F10_2.other W11 (Or.inr (slot_ne (Or.inr (hw _ (List.mem_of_getElem? (i := 21) rfl))) (Or.inr (hw _ (List.mem_of_getElem? (i := 19) rfl))) (by decide) (t := (.array (.array .long))) (t' := (.array (.array .long))) (by decide) (by decide)))
  have F11_3 := F10_3.other W11 (Or.inr (slot_ne (Or.inr (hw _ (List.mem_of_getElem? (i := 23) rfl))) (Or.inr (hw _ (List.mem_of_getElem? (i := 19) rfl))) (by decide) (t := (.array (.array .long))) (t' := (.array (.array .long))) (by decide) (by decide)))
  have X11_0 := X10_0.wr W11
  have S11_0 := S10_0.wr W11
  have ne_a_b10 : a ≠ b10 := Nat.ne_of_lt (Nat.lt_of_lt_of_le (X9_0).lt (Nat.le_of_eq g10.symm))
  have V11_0 := V_b10.other W11 (Ne.symm ne_a_b10)
  have z11 : n0 ≤ h11.size := by rw [W11.size]; exact z10
  have K11 : Keep h0 h11 [a] := K10.wr W11 (Or.inl (by simp))
  have N11 := Fr.snoc X11 N9 g_a
  obtain ⟨T12, h12, k12, X12, e12, E12, A12, O12, st12⟩ := own_newRA X11 hx hZ hown (hw _ (List.mem_of_getElem? (i := 16) rfl)) (hw _ (List.mem_of_getElem? (i := 17) rfl)) (by decide +kernel) e11 (g := (mkF m 45 #[.val (.ref a), .val (.long q), .second, .val (.int (1 : Int32)), .val (.int lw), .unset, .unset] [(.int (1 : Int32)), (.ref a)])) rfl (hb hby own_d_prog_35_method_1_code_45) rfl (by decide) (cap := 1) (by decide) (by decide) (by decide) (by decide)
  obtain ⟨b12, g12⟩ : ∃ z, z = h11.size := ⟨_, rfl⟩
  rw [← g12] at A12 st12
  have g_b12 : n0 ≤ b12 := Nat.le_trans z11 (Nat.le_of_eq g12.symm)
  have sz_b12 : h0.size ≤ b12 := Nat.le_trans K11.1 (Nat.le_of_eq g12.symm)
  have F12_0 := F11_0.ext E12
  have F12_1 := F11_1.ext E12
  have F12_2 := F11_2.ext E12
  have F12_3 := F11_3.ext E12
  have X12_0 := X11_0.ext E12
  have S12_0 := S11_0.ext E12
  have V12_0 := V11_0.ext E12
  have z12 : n0 ≤ h12.size := Nat.le_trans z11 E12.1
  have K12 : Keep h0 h12 [a] := K11.ext E12
  have V_b12 : Arv Z h12 b12 k12 (.array .long) (1 : Int32) [.null] .null := (Arv.new A12 (by decide)).pad (pad_rep [] .null 1)
  obtain ⟨T13, h13, X13, e13, W13, st13⟩ := putF X12 hx hZ hown (host := "") (Or.inl (hw _ (List.mem_of_getElem? (i := 20) rfl))) Via.refl e12 F12_2 X12_0 (Or.inr ⟨(hw _ (List.mem_of_getElem? (i := 21) rfl)), rfl, hnm⟩) (hw _ (List.mem_of_getElem? (i := 3) rfl)) (ty := (.array (.array .long))) (by decide) rfl rfl (g := (mkF m 48 #[.val (.ref a), .val (.long q), .second, .val (.int (1 : Int32)), .val (.int lw), .unset, .unset] [(.ref b12), (.ref a)])) rfl rfl (hb hby own_d_prog_35_method_1_code_48)
  have F13_0 := F12_0.other W13 (Or.inr (slot_ne (Or.inr (hw _ (List.mem_of_getElem? (i := 15) rfl))) (Or.inr (hw _ (List.mem_of_getElem? (i := 21) rfl))) (by decide) (t := .long) (t' := (.array (.array .long))) (by decide) (by decide)))
  have F13_1 := F12_1.other W13 (Or.inr (slot_ne (Or.inr (hw _ (List.mem_of_getElem? (i := 19) rfl))) (Or.inr (hw _ (List.mem_of_getElem? (i := 21) rfl))) (by decide) (t := (.array (.array .long))) (t' := (.array (.array .long))) (by decide) (by decide)))
  have F13_2 := F12_2.same W13
  have F13_3 := F12_3.other W13 (Or.inr (slot_ne (Or.inr (hw _ (List.mem_of_getElem? (i := 23) rfl))) (Or.inr (hw _ (List.mem_of_getElem? (i := 21) rfl))) (by decide) (t := (.array (.array .long))) (t' := (.array (.array .long))) (by decide) (by decide)))
  have X13_0 := X12_0.wr W13
  have S13_0 := S12_0.wr W13
  have V13_0 := V12_0.other W13 (Ne.symm ne_a_b10)
  have ne_a_b12 : a ≠ b12 := Nat.ne_of_lt (Nat.lt_of_lt_of_le (X11_0).lt (Nat.le_of_eq g12.symm))
  have V13_1 := V_b12.other W13 (Ne.symm ne_a_b12)
  have z13 : n0 ≤ h13.size := by rw [W13.size]; exact z12
  have K13 : Keep h0 h13 [a] := K12.wr W13 (Or.inl (by simp))
  have N13 := Fr.snoc X13 N11 g_a
  have fold14 : ((2 : Int32) * (1 : Int32)) = (2 : Int32) := by decide +kernel
  have fold15 : ((2 : Int32) - (1 : Int32)) = (1 : Int32) := by decide +kernel
  obtain ⟨T16, h16, k16, X16, e16, E16, A16, O16, st16⟩ := own_newRA X13 hx hZ hown (hw _ (List.mem_of_getElem? (i := 16) rfl)) (hw _ (List.mem_of_getElem? (i := 17) rfl)) (by decide +kernel) e13 (g := (mkF m 69 #[.val (.ref a), .val (.long q), .second, .val (.int (1 : Int32)), .val (.int lw), .unset, .unset] [(.int (1 : Int32)), (.ref a)])) rfl (hb hby own_d_prog_35_method_1_code_69) rfl (by decide) (cap := 1) (by decide) (by decide) (by decide) (by decide)
  obtain ⟨b16, g16⟩ : ∃ z, z = h13.size := ⟨_, rfl⟩
  rw [← g16] at A16 st16
  have g_b16 : n0 ≤ b16 := Nat.le_trans z13 (Nat.le_of_eq g16.symm)
  have sz_b16 : h0.size ≤ b16 := Nat.le_trans K13.1 (Nat.le_of_eq g16.symm)
  have F16_0 := F13_0.ext E16
  have F16_1 := F13_1.ext E16
  have F16_2 := F13_2.ext E16
  have F16_3 := F13_3.ext E16
  have X16_0 := X13_0.ext E16
  have S16_0 := S13_0.ext E16
  have V16_0 := V13_0.ext E16
  have V16_1 := V13_1.ext E16
  have z16 : n0 ≤ h16.size := Nat.le_trans z13 E16.1
  have K16 : Keep h0 h16 [a] := K13.ext E16
  have V_b16 : Arv Z h16 b16 k16 (.array .long) (1 : Int32) [.null] .null := (Arv.new A16 (by decide)).pad (pad_rep [] .null 1)
  obtain ⟨T17, h17, X17, e17, W17, st17⟩ := putF X16 hx hZ hown (host := "") (Or.inl (hw _ (List.mem_of_getElem? (i := 22) rfl))) Via.refl e16 F16_3 X16_0 (Or.inr ⟨(hw _ (List.mem_of_getElem? (i := 23) rfl)), rfl, hnm⟩) (hw _ (List.mem_of_getElem? (i := 3) rfl)) (ty := (.array (.array .long))) (by decide) rfl rfl (g := (mkF m 72 #[.val (.ref a), .val (.long q), .second, .val (.int (1 : Int32)), .val (.int lw), .unset, .unset] [(.ref b16), (.ref a)])) rfl rfl (hb hby own_d_prog_35_method_1_code_72)
  have F17_0 := F16_0.other W17 (Or.inr (slot_ne (Or.inr (hw _ (List.mem_of_getElem? (i := 15) rfl))) (Or.inr (hw _ (List.mem_of_getElem? (i := 23) rfl))) (by decide) (t := .long) (t' := (.array (.array .long))) (by decide) (by decide)))
  have F17_1 := F16_1.other W17 (Or.inr (slot_ne (Or.inr (hw _ (List.mem_of_getElem? (i := 19) rfl))) (Or.inr (hw _ (List.mem_of_getElem? (i := 23) rfl))) (by decide) (t := (.array (.array .long))) (t' := (.array (.array .long))) (by decide) (by decide)))
  have F17_2 := F16_2.other W17 (Or.inr (slot_ne (Or.inr (hw _ (List.mem_of_getElem? (i := 21) rfl))) (Or.inr (hw _ (List.mem_of_getElem? (i := 23) rfl))) (by decide) (t := (.array (.array .long))) (t' := (.array (.array .long))) (by decide) (by decide)))
  have F17_3 := F16_3.same W17
  have X17_0 := X16_0.wr W17
  have S17_0 := S16_0.wr W17
  have V17_0 := V16_0.other W17 (Ne.symm ne_a_b10)
  have V17_1 := V16_1.other W17 (Ne.symm ne_a_b12)
  have ne_a_b16 : a ≠ b16 := Nat.ne_of_lt (Nat.lt_of_lt_of_le (X13_0).lt (Nat.le_of_eq g16.symm))
  have V17_2 := V_b16.other W17 (Ne.symm ne_a_b16)
  have z17 : n0 ≤ h17.size := by rw [W17.size]; exact z16
  have K17 : Keep h0 h17 [a] := K16.wr W17 (Or.inl (by simp))
  have N17 := Fr.snoc X17 N13 g_a
  have pre18 : ∀ tt_, Steps p.tables e below (T17.setTop (mkF m 78 #[.val (.ref a), .val (.long q), .second, .val (.int (1 : Int32)), .val (.int lw), .val (.int (0 : Int32)), .unset] [])) tt_ → Steps p.tables e below (s₁.setTop (entryFrame m #[(.ref a), (.long q)] 7)) tt_ := fun tt_ kk_ => pre8 tt_ (by
    show Steps p.tables e below (T6.setTop (mkF m 28 #[.val (.ref a), .val (.long q), .second, .val (.int (1 : Int32)), .unset, .unset, .unset] [(.int lw)])) _
    refine XS.istore X6.here hx rfl (hb hby own_d_prog_35_method_1_code_28) rfl (l' := #[.val (.ref a), .val (.long q), .second, .val (.int (1 : Int32)), .val (.int lw), .unset, .unset]) rfl ?_
    refine XS.aloadN X6.here hx rfl (hb hby own_d_prog_35_method_1_code_30) rfl rfl ?_
    refine XS.lloadN X6.here hx rfl (hb hby own_d_prog_35_method_1_code_31) rfl ?_
    refine st9 _ ?_
    refine XS.aloadN X9.here hx rfl (hb hby own_d_prog_35_method_1_code_35) rfl rfl ?_
    refine XS.iloadN X9.here hx rfl (hb hby own_d_prog_35_method_1_code_36) rfl ?_
    refine st10 _ ?_
    refine st11 _ ?_
    refine XS.aloadN X11.here hx rfl (hb hby own_d_prog_35_method_1_code_43) rfl rfl ?_
    show Steps p.tables e below (T11.setTop (mkF m 44 #[.val (.ref a), .val (.long q), .second, .val (.int (1 : Int32)), .val (.int lw), .unset, .unset] [(.ref a)])) _
    refine XS.iloadN X11.here hx rfl (hb hby own_d_prog_35_method_1_code_44) rfl ?_
    refine st12 _ ?_
    refine st13 _ ?_
    refine XS.aloadN X13.here hx rfl (hb hby own_d_prog_35_method_1_code_51) rfl rfl ?_
    refine XS.iconst X13.here hx rfl (hb hby own_d_prog_35_method_1_code_52) ?_
    refine XS.iloadN X13.here hx rfl (hb hby own_d_prog_35_method_1_code_53) rfl ?_
    refine XS.imul X13.here hx rfl (hb hby own_d_prog_35_method_1_code_54) rfl ?_
    show Steps p.tables e below (T13.setTop (mkF m 55 #[.val (.ref a), .val (.long q), .second, .val (.int (1 : Int32)), .val (.int lw), .unset, .unset] [(.int ((2 : Int32) * (1 : Int32))), (.ref a)])) _
    rw [fold14]
    show Steps p.tables e below (T13.setTop (mkF m 55 #[.val (.ref a), .val (.long q), .second, .val (.int (1 : Int32)), .val (.int lw), .unset, .unset] [(.int (2 : Int32)), (.ref a)])) _
    refine XS.iload X13.here hx rfl (hb hby own_d_prog_35_method_1_code_55) rfl ?_
    show Steps p.tables e below (T13.setTop (mkF m 57 #[.val (.ref a), .val (.long q), .second, .val (.int (1 : Int32)), .val (.int lw), .unset, .unset] [(.int lw), (.int (2 : Int32)), (.ref a)])) _
    refine XS.sipush X13.here hx rfl (hb hby own_d_prog_35_method_1_code_57) ?_
    refine XS.icmpYes X13.here hx rfl (pc0 := 60) (pc' := 67) rfl (hb hby own_d_prog_35_method_1_code_60) rfl (flt (ht : ¬ ((32764 : Int32) < lw))).2.2.2 (by decide) (by decide) ?_
    refine XS.iconst X13.here hx rfl (hb hby own_d_prog_35_method_1_code_67) ?_
    refine XS.isub X13.here hx rfl (hb hby own_d_prog_35_method_1_code_68) rfl ?_
    show Steps p.tables e below (T13.setTop (mkF m 69 #[.val (.ref a), .val (.long q), .second, .val (.int (1 : Int32)), .val (.int lw), .unset, .unset] [(.int ((2 : Int32) - (1 : Int32))), (.ref a)])) _
    rw [fold15]
    show Steps p.tables e below (T13.setTop (mkF m 69 #[.val (.ref a), .val (.long q), .second, .val (.int (1 : Int32)), .val (.int lw), .unset, .unset] [(.int (1 : Int32)), (.ref a)])) _
    refine st16 _ ?_
    refine st17 _ ?_
    refine XS.iconst X17.here hx rfl (hb hby own_d_prog_35_method_1_code_75) ?_
    refine XS.istore X17.here hx rfl (hb hby own_d_prog_35_method_1_code_76) rfl (l' := #[.val (.ref a), .val (.long q), .second, .val (.int (1 : Int32)), .val (.int lw), .val (.int (0 : Int32)), .unset]) rfl ?_
    exact kk_)
  have fold19 : ((1 : Int32) - (1 : Int32)) = (0 : Int32) := by decide +kernel
  obtain ⟨T20, X20, e20, st20⟩ := getF X17 hx hZ hown (host := "") (Or.inl (hw _ (List.mem_of_getElem? (i := 18) rfl))) Via.refl e17 F17_1 (g := (mkF m 102 #[.val (.ref a), .val (.long q), .second, .val (.int (1 : Int32)), .val (.int lw), .val (.int (0 : Int32)), .val (.int lw)] [(.ref a)])) rfl rfl (hb hby own_d_prog_35_method_1_code_102)
  obtain ⟨_, _, ⟨T21, L21, k21, n21⟩, -, X21, ⟨Lc21, hQ21, l21, y21, z21⟩, st21⟩ := Jvm.LawKit.callS X20 hx (y := (⟨"java/lang/Math", "min", "(II)I"⟩ : MethodName)) hown (mvT hZ (hw _ (List.mem_of_getElem? (i := 24) rfl))) (mvT hZ (hw _ (List.mem_of_getElem? (i := 25) rfl))) (mvT hZ (hw _ (List.mem_of_getElem? (i := 26) rfl))) (mvT hZ (hw _ (List.mem_of_getElem? (i := 27) rfl))) (by decide) (backOf (W := 2) (rmMin l Z a0 hw [] lw (32764 : Int32) (own_min lw (32764 : Int32)) h17 n0 z17 rfl) hZ (hw _ (List.mem_of_getElem? (i := 27) rfl)) (hw _ (List.mem_of_getElem? (i := 26) rfl)) (by decide) (by decide)) (g := (mkF m 112 #[.val (.ref a), .val (.long q), .second, .val (.int (1 : Int32)), .val (.int lw), .val (.int (0 : Int32)), .val (.int lw)] [(.int (32764 : Int32)), (.int lw), (.int (0 : Int32)), (.ref b10)])) rfl (by rw [hml]; rfl) (argsL := [(.int lw), (.int (32764 : Int32))]) (rest := [(.int (0 : Int32)), (.ref b10)]) (lenOf own_pd0 rfl) rfl (by show 2 * 0 + _ ≤ _; exact Nat.le_of_eq rfl) (hb hby own_d_prog_35_method_1_code_112) (fun _ _ => ⟨rfl, e20, (by decide : 3 + 0 ≤ _), (by decide : 3 + 0 ≤ _)⟩)
  dsimp only [Pt.U, Pt.locs, Pt.cells, Pt.slots] at X21 l21 y21 z21 st21 hQ21
  replace l21 := l21.symm; subst l21 y21 z21
  obtain ⟨rfl, N21q, e21⟩ := hQ21
  have N21 := Fr.app N17 N21q
  obtain ⟨T22, h22, k22, X22, e22, E22, A22, Ea22, st22⟩ := newPE X21 hx hZ (hw _ (List.mem_of_getElem? (i := 28) rfl)) e21 (g := (mkF m 115 #[.val (.ref a), .val (.long q), .second, .val (.int (1 : Int32)), .val (.int lw), .val (.int (0 : Int32)), .val (.int lw)] [(.int (own_min lw (32764 : Int32))), (.int (0 : Int32)), (.ref b10)])) rfl (hb hby own_d_prog_35_method_1_code_115) rfl (own_hneg hlb) (cap := 32764) (own_hcap hlb) (by decide) (by decide) (by decide) (ad := "[J") (by decide +kernel)
  obtain ⟨b22, g22⟩ : ∃ z, z = h17.size := ⟨_, rfl⟩
  rw [← g22] at A22 st22 Ea22
  have g_b22 : n0 ≤ b22 := Nat.le_trans z17 (Nat.le_of_eq g22.symm)
  have sz_b22 : h0.size ≤ b22 := Nat.le_trans K17.1 (Nat.le_of_eq g22.symm)
  have F22_0 := F17_0.ext E22
  have F22_1 := F17_1.ext E22
  have F22_2 := F17_2.ext E22
  have F22_3 := F17_3.ext E22
  have X22_0 := X17_0.ext E22
  have S22_0 := S17_0.ext E22
  have V22_0 := V17_0.ext E22
  have V22_1 := V17_1.ext E22
  have V22_2 := V17_2.ext E22
  have z22 : n0 ≤ h22.size := Nat.le_trans z17 E22.1
  have K22 : Keep h0 h22 [a] := K17.ext E22
  have V_b22 : Arv Z h22 b22 k22 .long (own_min lw (32764 : Int32)) [] (.long (0 : Int64)) := (Arv.new A22 (own_hneg hlb)).pad (pad_rep [] (.long (0 : Int64)) 0)
  obtain ⟨cl23, Ar23, q23, S23, M23, H23, G23⟩ := id V22_0
  have hin23 : ¬ ((0 : Int32) < 0 ∨ cl23.slots.size ≤ ((0 : Int32)).toNatClampNeg) := inb_of S23 ⟨by decide, by decide⟩
  obtain ⟨T24, h24, X24, e24, W24, st24⟩ := stR X22 hx hZ e22 Ar23 (j := (0 : Int32)) hin23 rfl (own_stoA Ar23 q23 O10 (Ins.self Ea22)) (g := (mkF m 117 #[.val (.ref a), .val (.long q), .second, .val (.int (1 : Int32)), .val (.int lw), .val (.int (0 : Int32)), .val (.int lw)] [(.ref b22), (.int (0 : Int32)), (.ref b10)])) rfl rfl (hb hby own_d_prog_35_method_1_code_117)
  have V_b10_24 : Arv Z h24 b10 k10 (.array .long) (1 : Int32) [(.ref b22)] .null := Arv.set Ar23 q23 S23 M23 H23 G23 rfl W24 0 rfl (Nat.le_of_ble_eq_true rfl)
  have F24_0 := F22_0.other W24 (Or.inl ne_a_b10)
  have F24_1 := F22_1.other W24 (Or.inl ne_a_b10)
  have F24_2 := F22_2.other W24 (Or.inl ne_a_b10)
  have F24_3 := F22_3.other W24 (Or.inl ne_a_b10)
  have X24_0 := X22_0.wr W24
  have X24_1 := Ea22.wr W24
  have S24_0 := S22_0.wr W24
  have ne_b10_b12 : b10 ≠ b12 := Nat.ne_of_lt (Nat.lt_of_lt_of_le (V11_0).lt (Nat.le_of_eq g12.symm))
  have V24_1 := V22_1.other W24 (Ne.symm ne_b10_b12)
  have ne_b10_b16 : b10 ≠ b16 := Nat.ne_of_lt (Nat.lt_of_lt_of_le (V13_0).lt (Nat.le_of_eq g16.symm))
  have V24_2 := V22_2.other W24 (Ne.symm ne_b10_b16)
  have ne_b10_b22 : b10 ≠ b22 := Nat.ne_of_lt (Nat.lt_of_lt_of_le (V17_0).lt (Nat.le_of_eq g22.symm))
  have V24_3 := V_b22.other W24 (Ne.symm ne_b10_b22)
  have z24 : n0 ≤ h24.size := by rw [W24.size]; exact z22
  have K24 : Keep h0 h24 [a] := K22.wr W24 (Or.inr sz_b10)
  have N24 := Fr.snoc X24 N21 g_b10
  have pre25 : ∀ tt_, Steps p.tables e below (T24.setTop (mkF m 118 #[.val (.ref a), .val (.long q), .second, .val (.int (1 : Int32)), .val (.int lw), .val (.int (0 : Int32)), .val (.int lw)] [])) tt_ → Steps p.tables e below (s₁.setTop (entryFrame m #[(.ref a), (.long q)] 7)) tt_ := fun tt_ kk_ => pre18 tt_ (by
    show Steps p.tables e below (T17.setTop (mkF m 78 #[.val (.ref a), .val (.long q), .second, .val (.int (1 : Int32)), .val (.int lw), .val (.int (0 : Int32)), .unset] [])) _
    refine XS.iload X17.here hx rfl (hb hby own_d_prog_35_method_1_code_78) rfl ?_
    refine XS.iloadN X17.here hx rfl (hb hby own_d_prog_35_method_1_code_80) rfl ?_
    refine XS.icmpNo X17.here hx rfl (hb hby own_d_prog_35_method_1_code_81) rfl (tlt ((by decide) : (0 : Int32) < (1 : Int32))).2.1 ?_
    refine XS.iload X17.here hx rfl (hb hby own_d_prog_35_method_1_code_84) rfl ?_
    refine XS.iloadN X17.here hx rfl (hb hby own_d_prog_35_method_1_code_86) rfl ?_
    refine XS.iconst X17.here hx rfl (hb hby own_d_prog_35_method_1_code_87) ?_
    show Steps p.tables e below (T17.setTop (mkF m 88 #[.val (.ref a), .val (.long q), .second, .val (.int (1 : Int32)), .val (.int lw), .val (.int (0 : Int32)), .unset] [(.int (1 : Int32)), (.int (1 : Int32)), (.int (0 : Int32))])) _
    refine XS.isub X17.here hx rfl (hb hby own_d_prog_35_method_1_code_88) rfl ?_
    show Steps p.tables e below (T17.setTop (mkF m 89 #[.val (.ref a), .val (.long q), .second, .val (.int (1 : Int32)), .val (.int lw), .val (.int (0 : Int32)), .unset] [(.int ((1 : Int32) - (1 : Int32))), (.int (0 : Int32))])) _
    rw [fold19]
    show Steps p.tables e below (T17.setTop (mkF m 89 #[.val (.ref a), .val (.long q), .second, .val (.int (1 : Int32)), .val (.int lw), .val (.int (0 : Int32)), .unset] [(.int (0 : Int32)), (.int (0 : Int32))])) _
    refine XS.icmpYes X17.here hx rfl (pc0 := 89) (pc' := 97) rfl (hb hby own_d_prog_35_method_1_code_89) rfl (flt ((by decide) : ¬ ((0 : Int32) < (0 : Int32)))).2.1 (by decide) (by decide) ?_
    refine XS.iload X17.here hx rfl (hb hby own_d_prog_35_method_1_code_97) rfl ?_
    refine XS.istore X17.here hx rfl (hb hby own_d_prog_35_method_1_code_99) rfl (l' := #[.val (.ref a), .val (.long q), .second, .val (.int (1 : Int32)), .val (.int lw), .val (.int (0 : Int32)), .val (.int lw)]) rfl ?_
    refine XS.aloadN X17.here hx rfl (hb hby own_d_prog_35_method_1_code_101) rfl rfl ?_
    refine st20 _ ?_
    refine XS.iload X20.here hx rfl (hb hby own_d_prog_35_method_1_code_105) rfl ?_
    show Steps p.tables e below (T20.setTop (mkF m 107 #[.val (.ref a), .val (.long q), .second, .val (.int (1 : Int32)), .val (.int lw), .val (.int (0 : Int32)), .val (.int lw)] [(.int (0 : Int32)), (.ref b10)])) _
    refine XS.iload X20.here hx rfl (hb hby own_d_prog_35_method_1_code_107) rfl ?_
    refine XS.sipush X20.here hx rfl (hb hby own_d_prog_35_method_1_code_109) ?_
    show Steps p.tables e below (T20.setTop (mkF m 112 #[.val (.ref a), .val (.long q), .second, .val (.int (1 : Int32)), .val (.int lw), .val (.int (0 : Int32)), .val (.int lw)] [(.int (32764 : Int32)), (.int lw), (.int (0 : Int32)), (.ref b10)])) _
    refine st21 _ ?_
    refine st22 _ ?_
    refine st24 _ ?_
    exact kk_)
  obtain ⟨T26, X26, e26, st26⟩ := getF X24 hx hZ hown (host := "") (Or.inl (hw _ (List.mem_of_getElem? (i := 20) rfl))) Via.refl e24 F24_2 (g := (mkF m 119 #[.val (.ref a), .val (.long q), .second, .val (.int (1 : Int32)), .val (.int lw), .val (.int (0 : Int32)), .val (.int lw)] [(.ref a)])) rfl rfl (hb hby own_d_prog_35_method_1_code_119)
  obtain ⟨_, _, ⟨T27, L27, k27, n27⟩, -, X27, ⟨Lc27, hQ27, l27, y27, z27⟩, st27⟩ := Jvm.LawKit.callS X26 hx (y := (⟨"java/lang/Math", "max", "(II)I"⟩ : MethodName)) hown (mvT hZ (hw _ (List.mem_of_getElem? (i := 30) rfl))) (mvT hZ (hw _ (List.mem_of_getElem? (i := 31) rfl))) (mvT hZ (hw _ (List.mem_of_getElem? (i := 26) rfl))) (mvT hZ (hw _ (List.mem_of_getElem? (i := 32) rfl))) (by decide) (backOf (W := 2) (rmMax l Z a0 hw [] (lw - (32764 : Int32)) (0 : Int32) (own_max (lw - (32764 : Int32)) (0 : Int32)) h24 n0 z24 rfl) hZ (hw _ (List.mem_of_getElem? (i := 32) rfl)) (hw _ (List.mem_of_getElem? (i := 26) rfl)) (by decide) (by decide)) (g := (mkF m 131 #[.val (.ref a), .val (.long q), .second, .val (.int (1 : Int32)), .val (.int lw), .val (.int (0 : Int32)), .val (.int lw)] [(.int (0 : Int32)), (.int (lw - (32764 : Int32))), (.int (0 : Int32)), (.ref b12)])) rfl (by rw [hml]; rfl) (argsL := [(.int (lw - (32764 : Int32))), (.int (0 : Int32))]) (rest := [(.int (0 : Int32)), (.ref b12)]) (lenOf own_pd0 rfl) rfl (by show 2 * 0 + _ ≤ _; exact Nat.le_of_eq rfl) (hb hby own_d_prog_35_method_1_code_131) (fun _ _ => ⟨rfl, e26, (by decide : 4 + 0 ≤ _), (by decide : 32767 + 0 ≤ _)⟩)
  dsimp only [Pt.U, Pt.locs, Pt.cells, Pt.slots] at X27 l27 y27 z27 st27 hQ27
  replace l27 := l27.symm; subst l27 y27 z27
  obtain ⟨rfl, N27q, e27⟩ := hQ27
  have N27 := Fr.app N24 N27q
  obtain ⟨T28, h28, k28, X28, e28, E28, A28, Ea28, st28⟩ := newPE X27 hx hZ (hw _ (List.mem_of_getElem? (i := 28) rfl)) e27 (g := (mkF m 134 #[.val (.ref a), .val (.long q), .second, .val (.int (1 : Int32)), .val (.int lw), .val (.int (0 : Int32)), .val (.int lw)] [(.int (own_max (lw - (32764 : Int32)) (0 : Int32))), (.int (0 : Int32)), (.ref b12)])) rfl (hb hby own_d_prog_35_method_1_code_134) rfl (own_tneg hlb) (cap := 4) (own_tcap hlb) (by decide) (by decide) (by decide) (ad := "[J") (by decide +kernel)
  obtain ⟨b28, g28⟩ : ∃ z, z = h24.size := ⟨_, rfl⟩
  rw [← g28] at A28 st28 Ea28
  have g_b28 : n0 ≤ b28 := Nat.le_trans z24 (Nat.le_of_eq g28.symm)
  have sz_b28 : h0.size ≤ b28 := Nat.le_trans K24.1 (Nat.le_of_eq g28.symm)
  have F28_0 := F24_0.ext E28
  have F28_1 := F24_1.ext E28
  have F28_2 := F24_2.ext E28
  have F28_3 := F24_3.ext E28
  have X28_0 := X24_0.ext E28
  have X28_1 := X24_1.ext E28
  have S28_0 := S24_0.ext E28
  have V28_0 := V_b10_24.ext E28
  have V28_1 := V24_1.ext E28
  have V28_2 := V24_2.ext E28
  have V28_3 := V24_3.ext E28
  have z28 : n0 ≤ h28.size := Nat.le_trans z24 E28.1
  have K28 : Keep h0 h28 [a] := K24.ext E28
  have V_b28 : Arv Z h28 b28 k28 .long (own_max (lw - (32764 : Int32)) (0 : Int32)) [] (.long (0 : Int64)) := (Arv.new A28 (own_tneg hlb)).pad (pad_rep [] (.long (0 : Int64)) 0)
  obtain ⟨cl29, Ar29, q29, S29, M29, H29, G29⟩ := id V28_1
  have hin29 : ¬ ((0 : Int32) < 0 ∨ cl29.slots.size ≤ ((0 : Int32)).toNatClampNeg) := inb_of S29 ⟨by decide, by decide⟩
  obtain ⟨T30, h30, X30, e30, W30, st30⟩ := stR X28 hx hZ e28 Ar29 (j := (0 : Int32)) hin29 rfl (own_stoA Ar29 q29 O12 (Ins.self Ea28)) (g := (mkF m 136 #[.val (.ref a), .val (.long q), .second, .val (.int (1 : Int32)), .val (.int lw), .val (.int (0 : Int32)), .val (.int lw)] [(.ref b28), (.int (0 : Int32)), (.ref b12)])) rfl rfl (hb hby own_d_prog_35_method_1_code_136)
  have V_b12_30 : Arv Z h30 b12 k12 (.array .long) (1 : Int32) [(.ref b28)] .null := Arv.set Ar29 q29 S29 M29 H29 G29 rfl W30 0 rfl (Nat.le_of_ble_eq_true rfl)
  have F30_0 := F28_0.other W30 (Or.inl ne_a_b12)
  have F30_1 := F28_1.other W30 (Or.inl ne_a_b12)
  have F30_2 := F28_2.other W30 (Or.inl ne_a_b12)
  have F30_3 := F28_3.other W30 (Or.inl ne_a_b12)
  have X30_0 := X28_0.wr W30
  have X30_1 := X28_1.wr W30
  have X30_2 := Ea28.wr W30
  have S30_0 := S28_0.wr W30
  have V30_0 := V28_0.other W30 ne_b10_b12
  have ne_b12_b16 : b12 ≠ b16 := Nat.ne_of_lt (Nat.lt_of_lt_of_le (V13_1).lt (Nat.le_of_eq g16.symm))
  have V30_2 := V28_2.other W30 (Ne.symm ne_b12_b16)
  have ne_b12_b22 : b12 ≠ b22 := Nat.ne_of_lt (Nat.lt_of_lt_of_le (V17_1).lt (Nat.le_of_eq g22.symm))
  have V30_3 := V28_3.other W30 (Ne.symm ne_b12_b22)
  have ne_b12_b28 : b12 ≠ b28 := Nat.ne_of_lt (Nat.lt_of_lt_of_le (V24_1).lt (Nat.le_of_eq g28.symm))
  have V30_4 := V_b28.other W30 (Ne.symm ne_b12_b28)
  have z30 : n0 ≤ h30.size := by rw [W30.size]; exact z28
  have K30 : Keep h0 h30 [a] := K28.wr W30 (Or.inr sz_b12)
  have N30 := Fr.snoc X30 N27 g_b12
  have pre31 : ∀ tt_, Steps p.tables e below (T30.setTop (mkF m 137 #[.val (.ref a), .val (.long q), .second, .val (.int (1 : Int32)), .val (.int lw), .val (.int (0 : Int32)), .val (.int lw)] [])) tt_ → Steps p.tables e below (s₁.setTop (entryFrame m #[(.ref a), (.long q)] 7)) tt_ := fun tt_ kk_ => pre25 tt_ (by
    show Steps p.tables e below (T24.setTop (mkF m 118 #[.val (.ref a), .val (.long q), .second, .val (.int (1 : Int32)), .val (.int lw), .val (.int (0 : Int32)), .val (.int lw)] [])) _
    refine XS.aloadN X24.here hx rfl (hb hby own_d_prog_35_method_1_code_118) rfl rfl ?_
    refine st26 _ ?_
    refine XS.iload X26.here hx rfl (hb hby own_d_prog_35_method_1_code_122) rfl ?_
    refine XS.iload X26.here hx rfl (hb hby own_d_prog_35_method_1_code_124) rfl ?_
    refine XS.sipush X26.here hx rfl (hb hby own_d_prog_35_method_1_code_126) ?_
    show Steps p.tables e below (T26.setTop (mkF m 129 #[.val (.ref a), .val (.long q), .second, .val (.int (1 : Int32)), .val (.int lw), .val (.int (0 : Int32)), .val (.int lw)] [(.int (32764 : Int32)), (.int lw), (.int (0 : Int32)), (.ref b12)])) _
    refine XS.isub X26.here hx rfl (hb hby own_d_prog_35_method_1_code_129) rfl ?_
    refine XS.iconst X26.here hx rfl (hb hby own_d_prog_35_method_1_code_130) ?_
    show Steps p.tables e below (T26.setTop (mkF m 131 #[.val (.ref a), .val (.long q), .second, .val (.int (1 : Int32)), .val (.int lw), .val (.int (0 : Int32)), .val (.int lw)] [(.int (0 : Int32)), (.int (lw - (32764 : Int32))), (.int (0 : Int32)), (.ref b12)])) _
    refine st27 _ ?_
    refine st28 _ ?_
    refine st30 _ ?_
    exact kk_)
  obtain ⟨T32, X32, e32, st32⟩ := getF X30 hx hZ hown (host := "") (Or.inl (hw _ (List.mem_of_getElem? (i := 22) rfl))) Via.refl e30 F30_3 (g := (mkF m 138 #[.val (.ref a), .val (.long q), .second, .val (.int (1 : Int32)), .val (.int lw), .val (.int (0 : Int32)), .val (.int lw)] [(.ref a)])) rfl rfl (hb hby own_d_prog_35_method_1_code_138)
  have fold33 : ((2 : Int32) * (0 : Int32)) = (0 : Int32) := by decide +kernel
  obtain ⟨T34, X34, e34, st34⟩ := getF X32 hx hZ hown (host := "") (Or.inl (hw _ (List.mem_of_getElem? (i := 18) rfl))) Via.refl e32 F30_1 (g := (mkF m 146 #[.val (.ref a), .val (.long q), .second, .val (.int (1 : Int32)), .val (.int lw), .val (.int (0 : Int32)), .val (.int lw)] [(.ref a), (.int (0 : Int32)), (.ref b16)])) rfl rfl (hb hby own_d_prog_35_method_1_code_146)
  obtain ⟨cl35, Ar35, q35, S35, M35, H35, G35⟩ := id V30_0
  have hin35 : ¬ ((0 : Int32) < 0 ∨ cl35.slots.size ≤ ((0 : Int32)).toNatClampNeg) := inb_of S35 ⟨by decide, by decide⟩
  have hat35 : cl35.slots[((0 : Int32)).toNatClampNeg]? = some (.ref b22) := Has.at H35 hin35 rfl
  obtain ⟨cl36, Ar36, q36, S36, M36, H36, G36⟩ := id V30_2
  have hin36 : ¬ ((0 : Int32) < 0 ∨ cl36.slots.size ≤ ((0 : Int32)).toNatClampNeg) := inb_of S36 ⟨by decide, by decide⟩
  obtain ⟨T37, h37, X37, e37, W37, st37⟩ := stR X34 hx hZ e34 Ar36 (j := (0 : Int32)) hin36 rfl (own_stoA Ar36 q36 O16 (Ins.self X30_1)) (g := (mkF m 152 #[.val (.ref a), .val (.long q), .second, .val (.int (1 : Int32)), .val (.int lw), .val (.int (0 : Int32)), .val (.int lw)] [(.ref b22), (.int (0 : Int32)), (.ref b16)])) rfl rfl (hb hby own_d_prog_35_method_1_code_152)
  have V_b16_37 : Arv Z h37 b16 k16 (.array .long) (1 : Int32) [(.ref b22)] .null := Arv.set Ar36 q36 S36 M36 H36 G36 rfl W37 0 rfl (Nat.le_of_ble_eq_true rfl)
  have F37_0 := F30_0.other W37 (Or.inl ne_a_b16)
  have F37_1 := F30_1.other W37 (Or.inl ne_a_b16)
  have F37_2 := F30_2.other W37 (Or.inl ne_a_b16)
  have F37_3 := F30_3.other W37 (Or.inl ne_a_b16)
  have X37_0 := X30_0.wr W37
  have X37_1 := X30_1.wr W37
  have X37_2 := X30_2.wr W37
  have S37_0 := S30_0.wr W37
  have V37_0 := V30_0.other W37 ne_b10_b16
  have V37_1 := V_b12_30.other W37 ne_b12_b16
  have ne_b16_b22 : b16 ≠ b22 := Nat.ne_of_lt (Nat.lt_of_lt_of_le (V17_2).lt (Nat.le_of_eq g22.symm))
  have V37_3 := V30_3.other W37 (Ne.symm ne_b16_b22)
  have ne_b16_b28 : b16 ≠ b28 := Nat.ne_of_lt (Nat.lt_of_lt_of_le (V24_2).lt (Nat.le_of_eq g28.symm))
  have V37_4 := V30_4.other W37 (Ne.symm ne_b16_b28)
  have z37 : n0 ≤ h37.size := by rw [W37.size]; exact z30
  have K37 : Keep h0 h37 [a] := K30.wr W37 (Or.inr sz_b16)
  have N37 := Fr.snoc X37 N30 g_b16
  have pre38 : ∀ tt_, Steps p.tables e below (T37.setTop (mkF m 153 #[.val (.ref a), .val (.long q), .second, .val (.int (1 : Int32)), .val (.int lw), .val (.int (0 : Int32)), .val (.int lw)] [])) tt_ → Steps p.tables e below (s₁.setTop (entryFrame m #[(.ref a), (.long q)] 7)) tt_ := fun tt_ kk_ => pre31 tt_ (by
    show Steps p.tables e below (T30.setTop (mkF m 137 #[.val (.ref a), .val (.long q), .second, .val (.int (1 : Int32)), .val (.int lw), .val (.int (0 : Int32)), .val (.int lw)] [])) _
    refine XS.aloadN X30.here hx rfl (hb hby own_d_prog_35_method_1_code_137) rfl rfl ?_
    refine st32 _ ?_
    refine XS.iconst X32.here hx rfl (hb hby own_d_prog_35_method_1_code_141) ?_
    refine XS.iload X32.here hx rfl (hb hby own_d_prog_35_method_1_code_142) rfl ?_
    refine XS.imul X32.here hx rfl (hb hby own_d_prog_35_method_1_code_144) rfl ?_
    show Steps p.tables e below (T32.setTop (mkF m 145 #[.val (.ref a), .val (.long q), .second, .val (.int (1 : Int32)), .val (.int lw), .val (.int (0 : Int32)), .val (.int lw)] [(.int ((2 : Int32) * (0 : Int32))), (.ref b16)])) _
    rw [fold33]
    show Steps p.tables e below (T32.setTop (mkF m 145 #[.val (.ref a), .val (.long q), .second, .val (.int (1 : Int32)), .val (.int lw), .val (.int (0 : Int32)), .val (.int lw)] [(.int (0 : Int32)), (.ref b16)])) _
    refine XS.aloadN X32.here hx rfl (hb hby own_d_prog_35_method_1_code_145) rfl rfl ?_
    refine st34 _ ?_
    refine XS.iload X34.here hx rfl (hb hby own_d_prog_35_method_1_code_149) rfl ?_
    refine X34.aaload hx (j := (0 : Int32)) (v := (.ref b22)) (by rw [e34]; exact Ar35.1) (State.isArrayOf_alike hZ.alike Ar35.2.1) rfl Ar35.2.2 hin35 hat35 (g := (mkF m 151 #[.val (.ref a), .val (.long q), .second, .val (.int (1 : Int32)), .val (.int lw), .val (.int (0 : Int32)), .val (.int lw)] [(.int (0 : Int32)), (.ref b10), (.int (0 : Int32)), (.ref b16)])) rfl rfl (hb hby own_d_prog_35_method_1_code_151) _ ?_
    refine st37 _ ?_
    exact kk_)
  have fold39 : ((0 : Int32) + (1 : Int32)) = (1 : Int32) := by decide +kernel
  have pre40 : ∀ tt_, Steps p.tables e below (T37.setTop (mkF m 78 #[.val (.ref a), .val (.long q), .second, .val (.int (1 : Int32)), .val (.int lw), .val (.int (1 : Int32)), .val (.int lw)] [])) tt_ → Steps p.tables e below (s₁.setTop (entryFrame m #[(.ref a), (.long q)] 7)) tt_ := fun tt_ kk_ => pre38 tt_ (by
    show Steps p.tables e below (T37.setTop (mkF m 153 #[.val (.ref a), .val (.long q), .second, .val (.int (1 : Int32)), .val (.int lw), .val (.int (0 : Int32)), .val (.int lw)] [])) _
    refine XS.iload X37.here hx rfl (hb hby own_d_prog_35_method_1_code_153) rfl ?_
    refine XS.sipush X37.here hx rfl (hb hby own_d_prog_35_method_1_code_155) ?_
    refine XS.icmpYes X37.here hx rfl (pc0 := 158) (pc' := 179) rfl (hb hby own_d_prog_35_method_1_code_158) rfl (flt (ht : ¬ ((32764 : Int32) < lw))).2.2.2 (by decide) (by decide) ?_
    show Steps p.tables e below (T37.setTop (mkF m 179 #[.val (.ref a), .val (.long q), .second, .val (.int (1 : Int32)), .val (.int lw), .val (.int (0 : Int32)), .val (.int lw)] [])) _
    refine XS.iinc X37.here hx rfl (hb hby own_d_prog_35_method_1_code_179) rfl (l' := #[.val (.ref a), .val (.long q), .second, .val (.int (1 : Int32)), .val (.int lw), .val (.int ((0 : Int32) + (1 : Int32))), .val (.int lw)]) rfl ?_
    show Steps p.tables e below (T37.setTop (mkF m 182 #[.val (.ref a), .val (.long q), .second, .val (.int (1 : Int32)), .val (.int lw), .val (.int ((0 : Int32) + (1 : Int32))), .val (.int lw)] [])) _
    rw [fold39]
    show Steps p.tables e below (T37.setTop (mkF m 182 #[.val (.ref a), .val (.long q), .second, .val (.int (1 : Int32)), .val (.int lw), .val (.int (1 : Int32)), .val (.int lw)] [])) _
    refine XS.goto X37.here hx rfl (pc0 := 182) (pc' := 78) rfl (hb hby own_d_prog_35_method_1_code_182) (by decide) (by decide) ?_
    exact kk_)
  have pre41 : ∀ tt_, Steps p.tables e below (T37.setTop (mkF m 185 #[.val (.ref a), .val (.long q), .second, .val (.int (1 : Int32)), .val (.int lw), .val (.int (1 : Int32)), .val (.int lw)] [])) tt_ → Steps p.tables e below (s₁.setTop (entryFrame m #[(.ref a), (.long q)] 7)) tt_ := fun tt_ kk_ => pre40 tt_ (by
    show Steps p.tables e below (T37.setTop (mkF m 78 #[.val (.ref a), .val (.long q), .second, .val (.int (1 : Int32)), .val (.int lw), .val (.int (1 : Int32)), .val (.int lw)] [])) _
    refine XS.iload X37.here hx rfl (hb hby own_d_prog_35_method_1_code_78) rfl ?_
    refine XS.iloadN X37.here hx rfl (hb hby own_d_prog_35_method_1_code_80) rfl ?_
    refine XS.icmpYes X37.here hx rfl (pc0 := 81) (pc' := 185) rfl (hb hby own_d_prog_35_method_1_code_81) rfl (flt ((by decide) : ¬ ((1 : Int32) < (1 : Int32)))).2.1 (by decide) (by decide) ?_
    exact kk_)
  obtain ⟨fs, hr, hrun, hended, hW, hsame⟩ := X37.leave (v := none) (fun _ => rfl)
  refine ⟨_, _, pre41 _ ?_, hrun, hended, _, _, rfl, ?_, ⟨_, rfl⟩, hW, hsame.mono (by decide) (by decide)⟩
  · show Steps p.tables e below (T37.setTop (mkF m 185 #[.val (.ref a), .val (.long q), .second, .val (.int (1 : Int32)), .val (.int lw), .val (.int (1 : Int32)), .val (.int lw)] [])) _
    exact X37.returnOut hx Bd.returns (hb hby own_d_prog_35_method_1_code_185) hr
  · show QI Z a 1 lw h0 n0 _ T37.heap _
    rw [e37]
    have H1 : ∀ pg : Nat, pg < 1 → ∃ r, ([(.ref b22)] : List Value).getD pg .null = .ref r ∧ ([(.ref b22)] : List Value).getD (2 * pg) .null = .ref r ∧ own_Len Z h37 r .long (own_lenH 1 lw pg) := by
      intro pg hp
      obtain rfl := own_lt1 hp
      · exact ⟨b22, rfl, rfl, own_Len.of (Arv.arh V37_3)⟩
    have H2 : ∀ pg : Nat, pg < 1 → (pg + 1 < 1 ∨ (32764 : Int32) < lw) → ∃ r, ([(.ref b28)] : List Value).getD pg .null = .ref r ∧ ([(.ref b22)] : List Value).getD (2 * pg + 1) .null = .ref r ∧ own_Len Z h37 r .long (own_lenT 1 lw pg) := by
      intro pg hp hq
      obtain rfl := own_lt1 hp
      · exact absurd hq (fun q => q.elim (by decide) ht)
    exact ⟨rfl, N37, K37, b10, _, _, b12, _, _, b16, _, _, _, F37_1, F37_2, F37_3, V37_0, V37_1, V_b16_37, by rw [if_neg ht]; decide, H1, H2⟩
theorem own_ef_rmI_2_1 (m : MethodId) (y0 : Addr) (y1 : Int64) : entryFrame m #[(.ref y0), (.long y1)] 7 = mkF m 0 #[.val (.ref y0), .val (.long y1), .second, .unset, .unset, .unset, .unset] [] := by first | (simp [entryFrame, mkF, argsToLocals, Value.category]; done) | rfl
set_option maxRecDepth 65536 in
set_option maxHeartbeats 40000000 in
theorem rmI_2_1 (l : Launch) (Z : State) (a0 : Array Value) (hw : ∀ d ∈ tables_1, d.before a0 Z = true) (ws : List Jvm.Cond) (a : Addr) (q : Int64) (lw : Int32) (h0 : Heap) (n0 : Nat) (Z0 : n0 ≤ h0.size) (E_a : Exa Z h0 a "com/example/elderflower/elderflower/PagedWords") (g_a : n0 ≤ a) (F_size : Fld Z h0 a "com/example/elderflower/elderflower/PagedWords" "size" "J" (.long (0 : Int64))) (F_heads : Fld Z h0 a "com/example/elderflower/elderflower/PagedWords" "heads" "[[J" .null) (F_tails : Fld Z h0 a "com/example/elderflower/elderflower/PagedWords" "tails" "[[J" .null) (F_arrays : Fld Z h0 a "com/example/elderflower/elderflower/PagedWords" "arrays" "[[J" .null) (S_PAGE_SHIFT : Sta Z h0 "com/example/elderflower/elderflower/PagedWords" "PAGE_SHIFT" "I" (.int (15 : Int32))) (hpg : ((((q + (32768 : Int64)) - (1 : Int64)).toUInt64 >>> ((15 : Int32) &&& 0x3f).toInt64.toUInt64).toInt64).toInt32 = Int32.ofNat 2) (hlw : (q - Int64.ofNat ((2 - 1) * 32768)).toInt32 = lw) (hlb : own_LW lw) (ht : (32764 : Int32) < lw) :
    MetFree l (⟨"com/example/elderflower/elderflower/PagedWords", "<init>", "(J)V"⟩ : MethodName) (head1 (Jvm.Cond.code (⟨"com/example/elderflower/elderflower/PagedWords", "<init>", "(J)V"⟩ : MethodName) prog_35_method_1_code 7 none :: ws) ({ frames := 1, cells := 11, slots := 131088, locals := 15 } : Room)) (fun ar_ U => ar_ = #[(.ref a), (.long q)] ∧ Z.Warmed39 U.vm ∧ U.heap = h0) (fun _ _ _ _ _ => True) (fun _ U o U' => ∃ v L, o = .returned v ∧ QI Z a 2 lw h0 n0 v U'.heap L ∧ FrameEnd U o U' L ({ frames := 1, cells := 11, slots := 131088, locals := 15 } : Room).cells ({ frames := 1, cells := 11, slots := 131088, locals := 15 } : Room).slots) := by
  refine MetFree.of_bodySF (plainFor_of_name own_pn0) hisR ?_
  intro p e s m args below meth c s₁ Bd hml0 hP hK
  obtain ⟨rfl, hZ, hh⟩ := hP
  have hx := Bd.exec
  have hby := Bd.bytes
  have hml : c.maxLocals = 7 := hml0
  have hown : s.vm.findClass "com/example/elderflower/elderflower/PagedWords" = some m.cls := findClass_of_methodNamed Bd.named
  have hnm := (name_of_methodNamed Bd.named Bd.method).1
  have X0 : Stand p l e ({ frames := 1, cells := 11, slots := 131088, locals := 15 } : Room) s m #[(.ref a), (.long q)] below meth c s₁ [] 0 0 := Stand.of_body Bd
  have e0 : s₁.heap = h0 := by rw [← hh, Bd.state]; rfl
  have N0 := Fr.nil n0
  have pre0 : ∀ tt_, Steps p.tables e below (s₁.setTop (mkF m 0 #[.val (.ref a), .val (.long q), .second, .unset, .unset, .unset, .unset] [])) tt_ → Steps p.tables e below (s₁.setTop (entryFrame m #[(.ref a), (.long q)] 7)) tt_ := fun tt_ kk_ => castTop (own_ef_rmI_2_1 m a q) kk_
  obtain ⟨T1, X1, e1, st1⟩ := initO X0 hx hZ hown (hw _ (List.mem_of_getElem? (i := 8) rfl)) (hw _ (List.mem_of_getElem? (i := 9) rfl)) (hw _ (List.mem_of_getElem? (i := 10) rfl)) e0 (g := (mkF m 1 #[.val (.ref a), .val (.long q), .second, .unset, .unset, .unset, .unset] [(.ref a)])) rfl (by rw [hml]; rfl) rfl (hb hby own_d_prog_35_method_1_code_1) (by decide) (W := 0) (by show 2 * 0 + _ ≤ _; exact Nat.le_of_eq rfl) (by decide)
  obtain ⟨T2, X2, e2, st2⟩ := getS2 X1 hx hZ hown (host := "") (Or.inl (hw _ (List.mem_of_getElem? (i := 12) rfl))) Via.refl e1 S_PAGE_SHIFT (g := (mkF m 11 #[.val (.ref a), .val (.long q), .second, .unset, .unset, .unset, .unset] [(.long ((q + (32768 : Int64)) - (1 : Int64)))])) rfl (hb hby own_d_prog_35_method_1_code_11)
  have hpg' : (((((q + (32768 : Int64)) - (1 : Int64)).toUInt64 >>> ((15 : Int32) &&& 0x3f).toInt64.toUInt64).toInt64).toInt32) = (2 : Int32) := hpg
  have pre3 : ∀ tt_, Steps p.tables e below (T2.setTop (mkF m 16 #[.val (.ref a), .val (.long q), .second, .unset, .unset, .unset, .unset] [(.int (((((q + (32768 : Int64)) - (1 : Int64)).toUInt64 >>> ((15 : Int32) &&& 0x3f).toInt64.toUInt64).toInt64).toInt32))])) tt_ → Steps p.tables e below (s₁.setTop (entryFrame m #[(.ref a), (.long q)] 7)) tt_ := fun tt_ kk_ => pre0 tt_ (by
    show Steps p.tables e below (s₁.setTop (mkF m 0 #[.val (.ref a), .val (.long q), .second, .unset, .unset, .unset, .unset] [])) _
    refine XS.aloadN X0.here hx rfl (hb hby own_d_prog_35_method_1_code_0) rfl rfl ?_
    refine st1 _ ?_
    refine XS.lloadN X1.here hx rfl (hb hby own_d_prog_35_method_1_code_4) rfl ?_
    refine X1.ldc2Long hx hown (mvT hZ (hw _ (List.mem_of_getElem? (i := 11) rfl))) (g := (mkF m 5 #[.val (.ref a), .val (.long q), .second, .unset, .unset, .unset, .unset] [(.long q)])) rfl (hb hby own_d_prog_35_method_1_code_5) _ ?_
    refine XS.ladd X1.here hx rfl (hb hby own_d_prog_35_method_1_code_8) rfl ?_
    refine XS.lconst X1.here hx rfl (hb hby own_d_prog_35_method_1_code_9) ?_
    show Steps p.tables e below (T1.setTop (mkF m 10 #[.val (.ref a), .val (.long q), .second, .unset, .unset, .unset, .unset] [(.long (1 : Int64)), (.long (q + (32768 : Int64)))])) _
    refine XS.lsub X1.here hx rfl (hb hby own_d_prog_35_method_1_code_10) rfl ?_
    refine st2 _ ?_
    refine XS.lushr X2.here hx rfl (hb hby own_d_prog_35_method_1_code_14) rfl ?_
    refine XS.l2i X2.here hx rfl (hb hby own_d_prog_35_method_1_code_15) rfl ?_
    exact kk_)
  rw [hpg'] at pre3
  have fold4 : ((2 : Int32) - (1 : Int32)) = (1 : Int32) := by decide +kernel
  have fold5 : ((1 : Int32).toInt64) = (1 : Int64) := by decide +kernel
  obtain ⟨T6, X6, e6, st6⟩ := getS2 X2 hx hZ hown (host := "") (Or.inl (hw _ (List.mem_of_getElem? (i := 12) rfl))) Via.refl e2 S_PAGE_SHIFT (g := (mkF m 22 #[.val (.ref a), .val (.long q), .second, .val (.int (2 : Int32)), .unset, .unset, .unset] [(.long (1 : Int64)), (.long q)])) rfl (hb hby own_d_prog_35_method_1_code_22)
  have fold7 : ((1 : Int64) <<< ((15 : Int32) &&& 0x3f).toInt64) = (32768 : Int64) := by decide +kernel
  have hlw' : ((q - (32768 : Int64)).toInt32) = lw := by rw [← hlw]; rfl
  have pre8 : ∀ tt_, Steps p.tables e below (T6.setTop (mkF m 28 #[.val (.ref a), .val (.long q), .second, .val (.int (2 : Int32)), .unset, .unset, .unset] [(.int ((q - (32768 : Int64)).toInt32))])) tt_ → Steps p.tables e below (s₁.setTop (entryFrame m #[(.ref a), (.long q)] 7)) tt_ := fun tt_ kk_ => pre3 tt_ (by
    show Steps p.tables e below (T2.setTop (mkF m 16 #[.val (.ref a), .val (.long q), .second, .unset, .unset, .unset, .unset] [(.int (2 : Int32))])) _
    refine XS.istoreN X2.here hx rfl (hb hby own_d_prog_35_method_1_code_16) rfl (l' := #[.val (.ref a), .val (.long q), .second, .val (.int (2 : Int32)), .unset, .unset, .unset]) rfl ?_
    refine XS.lloadN X2.here hx rfl (hb hby own_d_prog_35_method_1_code_17) rfl ?_
    refine XS.iloadN X2.here hx rfl (hb hby own_d_prog_35_method_1_code_18) rfl ?_
    show Steps p.tables e below (T2.setTop (mkF m 19 #[.val (.ref a), .val (.long q), .second, .val (.int (2 : Int32)), .unset, .unset, .unset] [(.int (2 : Int32)), (.long q)])) _
    refine XS.iconst X2.here hx rfl (hb hby own_d_prog_35_method_1_code_19) ?_
    refine XS.isub X2.here hx rfl (hb hby own_d_prog_35_method_1_code_20) rfl ?_
    show Steps p.tables e below (T2.setTop (mkF m 21 #[.val (.ref a), .val (.long q), .second, .val (.int (2 : Int32)), .unset, .unset, .unset] [(.int ((2 : Int32) - (1 : Int32))), (.long q)])) _
    rw [fold4]
    show Steps p.tables e below (T2.setTop (mkF m 21 #[.val (.ref a), .val (.long q), .second, .val (.int (2 : Int32)), .unset, .unset, .unset] [(.int (1 : Int32)), (.long q)])) _
    refine XS.i2l X2.here hx rfl (hb hby own_d_prog_35_method_1_code_21) rfl ?_
    show Steps p.tables e below (T2.setTop (mkF m 22 #[.val (.ref a), .val (.long q), .second, .val (.int (2 : Int32)), .unset, .unset, .unset] [(.long ((1 : Int32).toInt64)), (.long q)])) _
    rw [fold5]
    show Steps p.tables e below (T2.setTop (mkF m 22 #[.val (.ref a), .val (.long q), .second, .val (.int (2 : Int32)), .unset, .unset, .unset] [(.long (1 : Int64)), (.long q)])) _
    refine st6 _ ?_
    refine XS.lshl X6.here hx rfl (hb hby own_d_prog_35_method_1_code_25) rfl ?_
    show Steps p.tables e below (T6.setTop (mkF m 26 #[.val (.ref a), .val (.long q), .second, .val (.int (2 : Int32)), .unset, .unset, .unset] [(.long ((1 : Int64) <<< ((15 : Int32) &&& 0x3f).toInt64)), (.long q)])) _
    rw [fold7]
    show Steps p.tables e below (T6.setTop (mkF m 26 #[.val (.ref a), .val (.long q), .second, .val (.int (2 : Int32)), .unset, .unset, .unset] [(.long (32768 : Int64)), (.long q)])) _
    refine XS.lsub X6.here hx rfl (hb hby own_d_prog_35_method_1_code_26) rfl ?_
    refine XS.l2i X6.here hx rfl (hb hby own_d_prog_35_method_1_code_27) rfl ?_
    exact kk_)
  rw [hlw'] at pre8
  obtain ⟨T9, h9, X9, e9, W9, st9⟩ := putF X6 hx hZ hown (host := "") (Or.inl (hw _ (List.mem_of_getElem? (i := 14) rfl))) Via.refl e6 F_size E_a (Or.inr ⟨(hw _ (List.mem_of_getElem? (i := 15) rfl)), rfl, hnm⟩) (hw _ (List.mem_of_getElem? (i := 3) rfl)) (ty := .long) (by decide) rfl rfl (g := (mkF m 32 #[.val (.ref a), .val (.long q), .second, .val (.int (2 : Int32)), .val (.int lw), .unset, .unset] [(.long q), (.ref a)])) rfl rfl (hb hby own_d_prog_35_method_1_code_32)
  have F9_0 := F_size.same W9
  have F9_1 := F_heads.other W9 (Or.inr (slot_ne (Or.inr (hw _ (List.mem_of_getElem? (i := 19) rfl))) (Or.inr (hw _ (List.mem_of_getElem? (i := 15) rfl))) (by decide) (t := (.array (.array .long))) (t' := .long) (by decide) (by decide)))
  have F9_2 := F_tails.other W9 (Or.inr (slot_ne (Or.inr (hw _ (List.mem_of_getElem? (i := 21) rfl))) (Or.inr (hw _ (List.mem_of_getElem? (i := 15) rfl))) (by decide) (t := (.array (.array .long))) (t' := .long) (by decide) (by decide)))
  have F9_3 := F_arrays.other W9 (Or.inr (slot_ne (Or.inr (hw _ (List.mem_of_getElem? (i := 23) rfl))) (Or.inr (hw _ (List.mem_of_getElem? (i := 15) rfl))) (by decide) (t := (.array (.array .long))) (t' := .long) (by decide) (by decide)))
  have X9_0 := E_a.wr W9
  have S9_0 := S_PAGE_SHIFT.wr W9
  have z9 : n0 ≤ h9.size := by rw [W9.size]; exact Z0
  have K9 : Keep h0 h9 [a] := (Keep.refl h0 [a]).wr W9 (Or.inl (by simp))
  have N9 := Fr.snoc X9 N0 g_a
  obtain ⟨T10, h10, k10, X10, e10, E10, A10, O10, st10⟩ := own_newRA X9 hx hZ hown (hw _ (List.mem_of_getElem? (i := 16) rfl)) (hw _ (List.mem_of_getElem? (i := 17) rfl)) (by decide +kernel) e9 (g := (mkF m 37 #[.val (.ref a), .val (.long q), .second, .val (.int (2 : Int32)), .val (.int lw), .unset, .unset] [(.int (2 : Int32)), (.ref a)])) rfl (hb hby own_d_prog_35_method_1_code_37) rfl (by decide) (cap := 2) (by decide) (by decide) (by decide) (by decide)
  obtain ⟨b10, g10⟩ : ∃ z, z = h9.size := ⟨_, rfl⟩
  rw [← g10] at A10 st10
  have g_b10 : n0 ≤ b10 := Nat.le_trans z9 (Nat.le_of_eq g10.symm)
  have sz_b10 : h0.size ≤ b10 := Nat.le_trans K9.1 (Nat.le_of_eq g10.symm)
  have F10_0 := F9_0.ext E10
  have F10_1 := F9_1.ext E10
  have F10_2 := F9_2.ext E10
  have F10_3 := F9_3.ext E10
  have X10_0 := X9_0.ext E10
  have S10_0 := S9_0.ext E10
  have z10 : n0 ≤ h10.size := Nat.le_trans z9 E10.1
  have K10 : Keep h0 h10 [a] := K9.ext E10
  have V_b10 : Arv Z h10 b10 k10 (.array .long) (2 : Int32) [.null, .null] .null := (Arv.new A10 (by decide)).pad (pad_rep [] .null 2)
  obtain ⟨T11, h11, X11, e11, W11, st11⟩ := putF X10 hx hZ hown (host := "") (Or.inl (hw _ (List.mem_of_getElem? (i := 18) rfl))) Via.refl e10 F10_1 X10_0 (Or.inr ⟨(hw _ (List.mem_of_getElem? (i := 19) rfl)), rfl, hnm⟩) (hw _ (List.mem_of_getElem? (i := 3) rfl)) (ty := (.array (.array .long))) (by decide) rfl rfl (g := (mkF m 40 #[.val (.ref a), .val (.long q), .second, .val (.int (2 : Int32)), .val (.int lw), .unset, .unset] [(.ref b10), (.ref a)])) rfl rfl (hb hby own_d_prog_35_method_1_code_40)
  have F11_0 := F10_0.other W11 (Or.inr (slot_ne (Or.inr (hw _ (List.mem_of_getElem? (i := 15) rfl))) (Or.inr (hw _ (List.mem_of_getElem? (i := 19) rfl))) (by decide) (t := .long) (t' := (.array (.array .long))) (by decide) (by decide)))
  have F11_1 := F10_1.same W11
  have F11_2 := F10_2.other W11 (Or.inr (slot_ne (Or.inr (hw _ (List.mem_of_getElem? (i := 21) rfl))) (Or.inr (hw _ (List.mem_of_getElem? (i := 19) rfl))) (by decide) (t := (.array (.array .long))) (t' := (.array (.array .long))) (by decide) (by decide)))
  have F11_3 := F10_3.other W11 (Or.inr (slot_ne (Or.inr (hw _ (List.mem_of_getElem? (i := 23) rfl))) (Or.inr (hw _ (List.mem_of_getElem? (i := 19) rfl))) (by decide) (t := (.array (.array .long))) (t' := (.array (.array .long))) (by decide) (by decide)))
  have X11_0 := X10_0.wr W11
  have S11_0 := S10_0.wr W11
  have ne_a_b10 : a ≠ b10 := Nat.ne_of_lt (Nat.lt_of_lt_of_le (X9_0).lt (Nat.le_of_eq g10.symm))
  have V11_0 := V_b10.other W11 (Ne.symm ne_a_b10)
  have z11 : n0 ≤ h11.size := by rw [W11.size]; exact z10
  have K11 : Keep h0 h11 [a] := K10.wr W11 (Or.inl (by simp))
  have N11 := Fr.snoc X11 N9 g_a
  obtain ⟨T12, h12, k12, X12, e12, E12, A12, O12, st12⟩ := own_newRA X11 hx hZ hown (hw _ (List.mem_of_getElem? (i := 16) rfl)) (hw _ (List.mem_of_getElem? (i := 17) rfl)) (by decide +kernel) e11 (g := (mkF m 45 #[.val (.ref a), .val (.long q), .second, .val (.int (2 : Int32)), .val (.int lw), .unset, .unset] [(.int (2 : Int32)), (.ref a)])) rfl (hb hby own_d_prog_35_method_1_code_45) rfl (by decide) (cap := 2) (by decide) (by decide) (by decide) (by decide)
  obtain ⟨b12, g12⟩ : ∃ z, z = h11.size := ⟨_, rfl⟩
  rw [← g12] at A12 st12
  have g_b12 : n0 ≤ b12 := Nat.le_trans z11 (Nat.le_of_eq g12.symm)
  have sz_b12 : h0.size ≤ b12 := Nat.le_trans K11.1 (Nat.le_of_eq g12.symm)
  have F12_0 := F11_0.ext E12
  have F12_1 := F11_1.ext E12
  have F12_2 := F11_2.ext E12
  have F12_3 := F11_3.ext E12
  have X12_0 := X11_0.ext E12
  have S12_0 := S11_0.ext E12
  have V12_0 := V11_0.ext E12
  have z12 : n0 ≤ h12.size := Nat.le_trans z11 E12.1
  have K12 : Keep h0 h12 [a] := K11.ext E12
  have V_b12 : Arv Z h12 b12 k12 (.array .long) (2 : Int32) [.null, .null] .null := (Arv.new A12 (by decide)).pad (pad_rep [] .null 2)
  obtain ⟨T13, h13, X13, e13, W13, st13⟩ := putF X12 hx hZ hown (host := "") (Or.inl (hw _ (List.mem_of_getElem? (i := 20) rfl))) Via.refl e12 F12_2 X12_0 (Or.inr ⟨(hw _ (List.mem_of_getElem? (i := 21) rfl)), rfl, hnm⟩) (hw _ (List.mem_of_getElem? (i := 3) rfl)) (ty := (.array (.array .long))) (by decide) rfl rfl (g := (mkF m 48 #[.val (.ref a), .val (.long q), .second, .val (.int (2 : Int32)), .val (.int lw), .unset, .unset] [(.ref b12), (.ref a)])) rfl rfl (hb hby own_d_prog_35_method_1_code_48)
  have F13_0 := F12_0.other W13 (Or.inr (slot_ne (Or.inr (hw _ (List.mem_of_getElem? (i := 15) rfl))) (Or.inr (hw _ (List.mem_of_getElem? (i := 21) rfl))) (by decide) (t := .long) (t' := (.array (.array .long))) (by decide) (by decide)))
  have F13_1 := F12_1.other W13 (Or.inr (slot_ne (Or.inr (hw _ (List.mem_of_getElem? (i := 19) rfl))) (Or.inr (hw _ (List.mem_of_getElem? (i := 21) rfl))) (by decide) (t := (.array (.array .long))) (t' := (.array (.array .long))) (by decide) (by decide)))
  have F13_2 := F12_2.same W13
  have F13_3 := F12_3.other W13 (Or.inr (slot_ne (Or.inr (hw _ (List.mem_of_getElem? (i := 23) rfl))) (Or.inr (hw _ (List.mem_of_getElem? (i := 21) rfl))) (by decide) (t := (.array (.array .long))) (t' := (.array (.array .long))) (by decide) (by decide)))
  have X13_0 := X12_0.wr W13
  have S13_0 := S12_0.wr W13
  have V13_0 := V12_0.other W13 (Ne.symm ne_a_b10)
  have ne_a_b12 : a ≠ b12 := Nat.ne_of_lt (Nat.lt_of_lt_of_le (X11_0).lt (Nat.le_of_eq g12.symm))
  have V13_1 := V_b12.other W13 (Ne.symm ne_a_b12)
  have z13 : n0 ≤ h13.size := by rw [W13.size]; exact z12
  have K13 : Keep h0 h13 [a] := K12.wr W13 (Or.inl (by simp))
  have N13 := Fr.snoc X13 N11 g_a
  have fold14 : ((2 : Int32) * (2 : Int32)) = (4 : Int32) := by decide +kernel
  have fold15 : ((4 : Int32) - (0 : Int32)) = (4 : Int32) := by decide +kernel
  obtain ⟨T16, h16, k16, X16, e16, E16, A16, O16, st16⟩ := own_newRA X13 hx hZ hown (hw _ (List.mem_of_getElem? (i := 16) rfl)) (hw _ (List.mem_of_getElem? (i := 17) rfl)) (by decide +kernel) e13 (g := (mkF m 69 #[.val (.ref a), .val (.long q), .second, .val (.int (2 : Int32)), .val (.int lw), .unset, .unset] [(.int (4 : Int32)), (.ref a)])) rfl (hb hby own_d_prog_35_method_1_code_69) rfl (by decide) (cap := 4) (by decide) (by decide) (by decide) (by decide)
  obtain ⟨b16, g16⟩ : ∃ z, z = h13.size := ⟨_, rfl⟩
  rw [← g16] at A16 st16
  have g_b16 : n0 ≤ b16 := Nat.le_trans z13 (Nat.le_of_eq g16.symm)
  have sz_b16 : h0.size ≤ b16 := Nat.le_trans K13.1 (Nat.le_of_eq g16.symm)
  have F16_0 := F13_0.ext E16
  have F16_1 := F13_1.ext E16
  have F16_2 := F13_2.ext E16
  have F16_3 := F13_3.ext E16
  have X16_0 := X13_0.ext E16
  have S16_0 := S13_0.ext E16
  have V16_0 := V13_0.ext E16
  have V16_1 := V13_1.ext E16
  have z16 : n0 ≤ h16.size := Nat.le_trans z13 E16.1
  have K16 : Keep h0 h16 [a] := K13.ext E16
  have V_b16 : Arv Z h16 b16 k16 (.array .long) (4 : Int32) [.null, .null, .null, .null] .null := (Arv.new A16 (by decide)).pad (pad_rep [] .null 4)
  obtain ⟨T17, h17, X17, e17, W17, st17⟩ := putF X16 hx hZ hown (host := "") (Or.inl (hw _ (List.mem_of_getElem? (i := 22) rfl))) Via.refl e16 F16_3 X16_0 (Or.inr ⟨(hw _ (List.mem_of_getElem? (i := 23) rfl)), rfl, hnm⟩) (hw _ (List.mem_of_getElem? (i := 3) rfl)) (ty := (.array (.array .long))) (by decide) rfl rfl (g := (mkF m 72 #[.val (.ref a), .val (.long q), .second, .val (.int (2 : Int32)), .val (.int lw), .unset, .unset] [(.ref b16), (.ref a)])) rfl rfl (hb hby own_d_prog_35_method_1_code_72)
  have F17_0 := F16_0.other W17 (Or.inr (slot_ne (Or.inr (hw _ (List.mem_of_getElem? (i := 15) rfl))) (Or.inr (hw _ (List.mem_of_getElem? (i := 23) rfl))) (by decide) (t := .long) (t' := (.array (.array .long))) (by decide) (by decide)))
  have F17_1 := F16_1.other W17 (Or.inr (slot_ne (Or.inr (hw _ (List.mem_of_getElem? (i := 19) rfl))) (Or.inr (hw _ (List.mem_of_getElem? (i := 23) rfl))) (by decide) (t := (.array (.array .long))) (t' := (.array (.array .long))) (by decide) (by decide)))
  have F17_2 := F16_2.other W17 (Or.inr (slot_ne (Or.inr (hw _ (List.mem_of_getElem? (i := 21) rfl))) (Or.inr (hw _ (List.mem_of_getElem? (i := 23) rfl))) (by decide) (t := (.array (.array .long))) (t' := (.array (.array .long))) (by decide) (by decide)))
  have F17_3 := F16_3.same W17
  have X17_0 := X16_0.wr W17
  have S17_0 := S16_0.wr W17
  have V17_0 := V16_0.other W17 (Ne.symm ne_a_b10)
  have V17_1 := V16_1.other W17 (Ne.symm ne_a_b12)
  have ne_a_b16 : a ≠ b16 := Nat.ne_of_lt (Nat.lt_of_lt_of_le (X13_0).lt (Nat.le_of_eq g16.symm))
  have V17_2 := V_b16.other W17 (Ne.symm ne_a_b16)
  have z17 : n0 ≤ h17.size := by rw [W17.size]; exact z16
  have K17 : Keep h0 h17 [a] := K16.wr W17 (Or.inl (by simp))
  have N17 := Fr.snoc X17 N13 g_a
  have pre18 : ∀ tt_, Steps p.tables e below (T17.setTop (mkF m 78 #[.val (.ref a), .val (.long q), .second, .val (.int (2 : Int32)), .val (.int lw), .val (.int (0 : Int32)), .unset] [])) tt_ → Steps p.tables e below (s₁.setTop (entryFrame m #[(.ref a), (.long q)] 7)) tt_ := fun tt_ kk_ => pre8 tt_ (by
    show Steps p.tables e below (T6.setTop (mkF m 28 #[.val (.ref a), .val (.long q), .second, .val (.int (2 : Int32)), .unset, .unset, .unset] [(.int lw)])) _
    refine XS.istore X6.here hx rfl (hb hby own_d_prog_35_method_1_code_28) rfl (l' := #[.val (.ref a), .val (.long q), .second, .val (.int (2 : Int32)), .val (.int lw), .unset, .unset]) rfl ?_
    refine XS.aloadN X6.here hx rfl (hb hby own_d_prog_35_method_1_code_30) rfl rfl ?_
    refine XS.lloadN X6.here hx rfl (hb hby own_d_prog_35_method_1_code_31) rfl ?_
    refine st9 _ ?_
    refine XS.aloadN X9.here hx rfl (hb hby own_d_prog_35_method_1_code_35) rfl rfl ?_
    refine XS.iloadN X9.here hx rfl (hb hby own_d_prog_35_method_1_code_36) rfl ?_
    refine st10 _ ?_
    refine st11 _ ?_
    refine XS.aloadN X11.here hx rfl (hb hby own_d_prog_35_method_1_code_43) rfl rfl ?_
    show Steps p.tables e below (T11.setTop (mkF m 44 #[.val (.ref a), .val (.long q), .second, .val (.int (2 : Int32)), .val (.int lw), .unset, .unset] [(.ref a)])) _
    refine XS.iloadN X11.here hx rfl (hb hby own_d_prog_35_method_1_code_44) rfl ?_
    refine st12 _ ?_
    refine st13 _ ?_
    refine XS.aloadN X13.here hx rfl (hb hby own_d_prog_35_method_1_code_51) rfl rfl ?_
    refine XS.iconst X13.here hx rfl (hb hby own_d_prog_35_method_1_code_52) ?_
    refine XS.iloadN X13.here hx rfl (hb hby own_d_prog_35_method_1_code_53) rfl ?_
    refine XS.imul X13.here hx rfl (hb hby own_d_prog_35_method_1_code_54) rfl ?_
    show Steps p.tables e below (T13.setTop (mkF m 55 #[.val (.ref a), .val (.long q), .second, .val (.int (2 : Int32)), .val (.int lw), .unset, .unset] [(.int ((2 : Int32) * (2 : Int32))), (.ref a)])) _
    rw [fold14]
    show Steps p.tables e below (T13.setTop (mkF m 55 #[.val (.ref a), .val (.long q), .second, .val (.int (2 : Int32)), .val (.int lw), .unset, .unset] [(.int (4 : Int32)), (.ref a)])) _
    refine XS.iload X13.here hx rfl (hb hby own_d_prog_35_method_1_code_55) rfl ?_
    show Steps p.tables e below (T13.setTop (mkF m 57 #[.val (.ref a), .val (.long q), .second, .val (.int (2 : Int32)), .val (.int lw), .unset, .unset] [(.int lw), (.int (4 : Int32)), (.ref a)])) _
    refine XS.sipush X13.here hx rfl (hb hby own_d_prog_35_method_1_code_57) ?_
    refine XS.icmpNo X13.here hx rfl (hb hby own_d_prog_35_method_1_code_60) rfl (tlt (ht : (32764 : Int32) < lw)).2.2.2 ?_
    refine XS.iconst X13.here hx rfl (hb hby own_d_prog_35_method_1_code_63) ?_
    refine XS.goto X13.here hx rfl (pc0 := 64) (pc' := 68) rfl (hb hby own_d_prog_35_method_1_code_64) (by decide) (by decide) ?_
    refine XS.isub X13.here hx rfl (hb hby own_d_prog_35_method_1_code_68) rfl ?_
    show Steps p.tables e below (T13.setTop (mkF m 69 #[.val (.ref a), .val (.long q), .second, .val (.int (2 : Int32)), .val (.int lw), .unset, .unset] [(.int ((4 : Int32) - (0 : Int32))), (.ref a)])) _
    rw [fold15]
    show Steps p.tables e below (T13.setTop (mkF m 69 #[.val (.ref a), .val (.long q), .second, .val (.int (2 : Int32)), .val (.int lw), .unset, .unset] [(.int (4 : Int32)), (.ref a)])) _
    refine st16 _ ?_
    refine st17 _ ?_
    refine XS.iconst X17.here hx rfl (hb hby own_d_prog_35_method_1_code_75) ?_
    show Steps p.tables e below (T17.setTop (mkF m 76 #[.val (.ref a), .val (.long q), .second, .val (.int (2 : Int32)), .val (.int lw), .unset, .unset] [(.int (0 : Int32))])) _
    refine XS.istore X17.here hx rfl (hb hby own_d_prog_35_method_1_code_76) rfl (l' := #[.val (.ref a), .val (.long q), .second, .val (.int (2 : Int32)), .val (.int lw), .val (.int (0 : Int32)), .unset]) rfl ?_
    exact kk_)
  have fold19 : ((2 : Int32) - (1 : Int32)) = (1 : Int32) := by decide +kernel
  obtain ⟨T20, X20, e20, st20⟩ := getF X17 hx hZ hown (host := "") (Or.inl (hw _ (List.mem_of_getElem? (i := 18) rfl))) Via.refl e17 F17_1 (g := (mkF m 102 #[.val (.ref a), .val (.long q), .second, .val (.int (2 : Int32)), .val (.int lw), .val (.int (0 : Int32)), .val (.int (32768 : Int32))] [(.ref a)])) rfl rfl (hb hby own_d_prog_35_method_1_code_102)
  obtain ⟨_, _, ⟨T21, L21, k21, n21⟩, -, X21, ⟨Lc21, hQ21, l21, y21, z21⟩, st21⟩ := Jvm.LawKit.callS X20 hx (y := (⟨"java/lang/Math", "min", "(II)I"⟩ : MethodName)) hown (mvT hZ (hw _ (List.mem_of_getElem? (i := 24) rfl))) (mvT hZ (hw _ (List.mem_of_getElem? (i := 25) rfl))) (mvT hZ (hw _ (List.mem_of_getElem? (i := 26) rfl))) (mvT hZ (hw _ (List.mem_of_getElem? (i := 27) rfl))) (by decide) (backOf (W := 2) (rmMin l Z a0 hw [] (32768 : Int32) (32764 : Int32) (32764 : Int32) h17 n0 z17 (by decide)) hZ (hw _ (List.mem_of_getElem? (i := 27) rfl)) (hw _ (List.mem_of_getElem? (i := 26) rfl)) (by decide) (by decide)) (g := (mkF m 112 #[.val (.ref a), .val (.long q), .second, .val (.int (2 : Int32)), .val (.int lw), .val (.int (0 : Int32)), .val (.int (32768 : Int32))] [(.int (32764 : Int32)), (.int (32768 : Int32)), (.int (0 : Int32)), (.ref b10)])) rfl (by rw [hml]; rfl) (argsL := [(.int (32768 : Int32)), (.int (32764 : Int32))]) (rest := [(.int (0 : Int32)), (.ref b10)]) (lenOf own_pd0 rfl) rfl (by show 2 * 0 + _ ≤ _; exact Nat.le_of_eq rfl) (hb hby own_d_prog_35_method_1_code_112) (fun _ _ => ⟨rfl, e20, (by decide : 3 + 0 ≤ _), (by decide : 8 + 0 ≤ _)⟩)
  dsimp only [Pt.U, Pt.locs, Pt.cells, Pt.slots] at X21 l21 y21 z21 st21 hQ21
  replace l21 := l21.symm; subst l21 y21 z21
  obtain ⟨rfl, N21q, e21⟩ := hQ21
  have N21 := Fr.app N17 N21q
  obtain ⟨T22, h22, k22, X22, e22, E22, A22, Ea22, st22⟩ := newPE X21 hx hZ (hw _ (List.mem_of_getElem? (i := 28) rfl)) e21 (g := (mkF m 115 #[.val (.ref a), .val (.long q), .second, .val (.int (2 : Int32)), .val (.int lw), .val (.int (0 : Int32)), .val (.int (32768 : Int32))] [(.int (32764 : Int32)), (.int (0 : Int32)), (.ref b10)])) rfl (hb hby own_d_prog_35_method_1_code_115) rfl (by decide) (cap := 32764) (by decide) (by decide) (by decide) (by decide) (ad := "[J") (by decide +kernel)
  obtain ⟨b22, g22⟩ : ∃ z, z = h17.size := ⟨_, rfl⟩
  rw [← g22] at A22 st22 Ea22
  have g_b22 : n0 ≤ b22 := Nat.le_trans z17 (Nat.le_of_eq g22.symm)
  have sz_b22 : h0.size ≤ b22 := Nat.le_trans K17.1 (Nat.le_of_eq g22.symm)
  have F22_0 := F17_0.ext E22
  have F22_1 := F17_1.ext E22
  have F22_2 := F17_2.ext E22
  have F22_3 := F17_3.ext E22
  have X22_0 := X17_0.ext E22
  have S22_0 := S17_0.ext E22
  have V22_0 := V17_0.ext E22
  have V22_1 := V17_1.ext E22
  have V22_2 := V17_2.ext E22
  have z22 : n0 ≤ h22.size := Nat.le_trans z17 E22.1
  have K22 : Keep h0 h22 [a] := K17.ext E22
  have V_b22 : Arv Z h22 b22 k22 .long (32764 : Int32) [] (.long (0 : Int64)) := (Arv.new A22 (by decide)).pad (pad_rep [] (.long (0 : Int64)) 0)
  obtain ⟨cl23, Ar23, q23, S23, M23, H23, G23⟩ := id V22_0
  have hin23 : ¬ ((0 : Int32) < 0 ∨ cl23.slots.size ≤ ((0 : Int32)).toNatClampNeg) := inb_of S23 ⟨by decide, by decide⟩
  obtain ⟨T24, h24, X24, e24, W24, st24⟩ := stR X22 hx hZ e22 Ar23 (j := (0 : Int32)) hin23 rfl (own_stoA Ar23 q23 O10 (Ins.self Ea22)) (g := (mkF m 117 #[.val (.ref a), .val (.long q), .second, .val (.int (2 : Int32)), .val (.int lw), .val (.int (0 : Int32)), .val (.int (32768 : Int32))] [(.ref b22), (.int (0 : Int32)), (.ref b10)])) rfl rfl (hb hby own_d_prog_35_method_1_code_117)
  have V_b10_24 : Arv Z h24 b10 k10 (.array .long) (2 : Int32) [(.ref b22), .null] .null := Arv.set Ar23 q23 S23 M23 H23 G23 rfl W24 0 rfl (Nat.le_of_ble_eq_true rfl)
  have F24_0 := F22_0.other W24 (Or.inl ne_a_b10)
  have F24_1 := F22_1.other W24 (Or.inl ne_a_b10)
  have F24_2 := F22_2.other W24 (Or.inl ne_a_b10)
  have F24_3 := F22_3.other W24 (Or.inl ne_a_b10)
  have X24_0 := X22_0.wr W24
  have X24_1 := Ea22.wr W24
  have S24_0 := S22_0.wr W24
  have ne_b10_b12 : b10 ≠ b12 := Nat.ne_of_lt (Nat.lt_of_lt_of_le (V11_0).lt (Nat.le_of_eq g12.symm))
  have V24_1 := V22_1.other W24 (Ne.symm ne_b10_b12)
  have ne_b10_b16 : b10 ≠ b16 := Nat.ne_of_lt (Nat.lt_of_lt_of_le (V13_0).lt (Nat.le_of_eq g16.symm))
  have V24_2 := V22_2.other W24 (Ne.symm ne_b10_b16)
  have ne_b10_b22 : b10 ≠ b22 := Nat.ne_of_lt (Nat.lt_of_lt_of_le (V17_0).lt (Nat.le_of_eq g22.symm))
  have V24_3 := V_b22.other W24 (Ne.symm ne_b10_b22)
  have z24 : n0 ≤ h24.size := by rw [W24.size]; exact z22
  have K24 : Keep h0 h24 [a] := K22.wr W24 (Or.inr sz_b10)
  have N24 := Fr.snoc X24 N21 g_b10
  have pre25 : ∀ tt_, Steps p.tables e below (T24.setTop (mkF m 118 #[.val (.ref a), .val (.long q), .second, .val (.int (2 : Int32)), .val (.int lw), .val (.int (0 : Int32)), .val (.int (32768 : Int32))] [])) tt_ → Steps p.tables e below (s₁.setTop (entryFrame m #[(.ref a), (.long q)] 7)) tt_ := fun tt_ kk_ => pre18 tt_ (by
    show Steps p.tables e below (T17.setTop (mkF m 78 #[.val (.ref a), .val (.long q), .second, .val (.int (2 : Int32)), .val (.int lw), .val (.int (0 : Int32)), .unset] [])) _
    refine XS.iload X17.here hx rfl (hb hby own_d_prog_35_method_1_code_78) rfl ?_
    refine XS.iloadN X17.here hx rfl (hb hby own_d_prog_35_method_1_code_80) rfl ?_
    refine XS.icmpNo X17.here hx rfl (hb hby own_d_prog_35_method_1_code_81) rfl (tlt ((by decide) : (0 : Int32) < (2 : Int32))).2.1 ?_
    refine XS.iload X17.here hx rfl (hb hby own_d_prog_35_method_1_code_84) rfl ?_
    refine XS.iloadN X17.here hx rfl (hb hby own_d_prog_35_method_1_code_86) rfl ?_
    show Steps p.tables e below (T17.setTop (mkF m 87 #[.val (.ref a), .val (.long q), .second, .val (.int (2 : Int32)), .val (.int lw), .val (.int (0 : Int32)), .unset] [(.int (2 : Int32)), (.int (0 : Int32))])) _
    refine XS.iconst X17.here hx rfl (hb hby own_d_prog_35_method_1_code_87) ?_
    refine XS.isub X17.here hx rfl (hb hby own_d_prog_35_method_1_code_88) rfl ?_
    show Steps p.tables e below (T17.setTop (mkF m 89 #[.val (.ref a), .val (.long q), .second, .val (.int (2 : Int32)), .val (.int lw), .val (.int (0 : Int32)), .unset] [(.int ((2 : Int32) - (1 : Int32))), (.int (0 : Int32))])) _
    rw [fold19]
    show Steps p.tables e below (T17.setTop (mkF m 89 #[.val (.ref a), .val (.long q), .second, .val (.int (2 : Int32)), .val (.int lw), .val (.int (0 : Int32)), .unset] [(.int (1 : Int32)), (.int (0 : Int32))])) _
    refine XS.icmpNo X17.here hx rfl (hb hby own_d_prog_35_method_1_code_89) rfl (tlt ((by decide) : (0 : Int32) < (1 : Int32))).2.1 ?_
    refine X17.ldcInt hx hown (mvT hZ (hw _ (List.mem_of_getElem? (i := 52) rfl))) (g := (mkF m 92 #[.val (.ref a), .val (.long q), .second, .val (.int (2 : Int32)), .val (.int lw), .val (.int (0 : Int32)), .unset] [])) rfl (hb hby own_d_prog_35_method_1_code_92) _ ?_
    refine XS.goto X17.here hx rfl (pc0 := 94) (pc' := 99) rfl (hb hby own_d_prog_35_method_1_code_94) (by decide) (by decide) ?_
    refine XS.istore X17.here hx rfl (hb hby own_d_prog_35_method_1_code_99) rfl (l' := #[.val (.ref a), .val (.long q), .second, .val (.int (2 : Int32)), .val (.int lw), .val (.int (0 : Int32)), .val (.int (32768 : Int32))]) rfl ?_
    show Steps p.tables e below (T17.setTop (mkF m 101 #[.val (.ref a), .val (.long q), .second, .val (.int (2 : Int32)), .val (.int lw), .val (.int (0 : Int32)), .val (.int (32768 : Int32))] [])) _
    refine XS.aloadN X17.here hx rfl (hb hby own_d_prog_35_method_1_code_101) rfl rfl ?_
    refine st20 _ ?_
    refine XS.iload X20.here hx rfl (hb hby own_d_prog_35_method_1_code_105) rfl ?_
    refine XS.iload X20.here hx rfl (hb hby own_d_prog_35_method_1_code_107) rfl ?_
    refine XS.sipush X20.here hx rfl (hb hby own_d_prog_35_method_1_code_109) ?_
    show Steps p.tables e below (T20.setTop (mkF m 112 #[.val (.ref a), .val (.long q), .second, .val (.int (2 : Int32)), .val (.int lw), .val (.int (0 : Int32)), .val (.int (32768 : Int32))] [(.int (32764 : Int32)), (.int (32768 : Int32)), (.int (0 : Int32)), (.ref b10)])) _
    refine st21 _ ?_
    refine st22 _ ?_
    refine st24 _ ?_
    exact kk_)
  obtain ⟨T26, X26, e26, st26⟩ := getF X24 hx hZ hown (host := "") (Or.inl (hw _ (List.mem_of_getElem? (i := 20) rfl))) Via.refl e24 F24_2 (g := (mkF m 119 #[.val (.ref a), .val (.long q), .second, .val (.int (2 : Int32)), .val (.int lw), .val (.int (0 : Int32)), .val (.int (32768 : Int32))] [(.ref a)])) rfl rfl (hb hby own_d_prog_35_method_1_code_119)
  have fold27 : ((32768 : Int32) - (32764 : Int32)) = (4 : Int32) := by decide +kernel
  obtain ⟨_, _, ⟨T28, L28, k28, n28⟩, -, X28, ⟨Lc28, hQ28, l28, y28, z28⟩, st28⟩ := Jvm.LawKit.callS X26 hx (y := (⟨"java/lang/Math", "max", "(II)I"⟩ : MethodName)) hown (mvT hZ (hw _ (List.mem_of_getElem? (i := 30) rfl))) (mvT hZ (hw _ (List.mem_of_getElem? (i := 31) rfl))) (mvT hZ (hw _ (List.mem_of_getElem? (i := 26) rfl))) (mvT hZ (hw _ (List.mem_of_getElem? (i := 32) rfl))) (by decide) (backOf (W := 2) (rmMax l Z a0 hw [] (4 : Int32) (0 : Int32) (4 : Int32) h24 n0 z24 (by decide)) hZ (hw _ (List.mem_of_getElem? (i := 32) rfl)) (hw _ (List.mem_of_getElem? (i := 26) rfl)) (by decide) (by decide)) (g := (mkF m 131 #[.val (.ref a), .val (.long q), .second, .val (.int (2 : Int32)), .val (.int lw), .val (.int (0 : Int32)), .val (.int (32768 : Int32))] [(.int (0 : Int32)), (.int (4 : Int32)), (.int (0 : Int32)), (.ref b12)])) rfl (by rw [hml]; rfl) (argsL := [(.int (4 : Int32)), (.int (0 : Int32))]) (rest := [(.int (0 : Int32)), (.ref b12)]) (lenOf own_pd0 rfl) rfl (by show 2 * 0 + _ ≤ _; exact Nat.le_of_eq rfl) (hb hby own_d_prog_35_method_1_code_131) (fun _ _ => ⟨rfl, e26, (by decide : 4 + 0 ≤ _), (by decide : 32772 + 0 ≤ _)⟩)
  dsimp only [Pt.U, Pt.locs, Pt.cells, Pt.slots] at X28 l28 y28 z28 st28 hQ28
  replace l28 := l28.symm; subst l28 y28 z28
  obtain ⟨rfl, N28q, e28⟩ := hQ28
  have N28 := Fr.app N24 N28q
  obtain ⟨T29, h29, k29, X29, e29, E29, A29, Ea29, st29⟩ := newPE X28 hx hZ (hw _ (List.mem_of_getElem? (i := 28) rfl)) e28 (g := (mkF m 134 #[.val (.ref a), .val (.long q), .second, .val (.int (2 : Int32)), .val (.int lw), .val (.int (0 : Int32)), .val (.int (32768 : Int32))] [(.int (4 : Int32)), (.int (0 : Int32)), (.ref b12)])) rfl (hb hby own_d_prog_35_method_1_code_134) rfl (by decide) (cap := 4) (by decide) (by decide) (by decide) (by decide) (ad := "[J") (by decide +kernel)
  obtain ⟨b29, g29⟩ : ∃ z, z = h24.size := ⟨_, rfl⟩
  rw [← g29] at A29 st29 Ea29
  have g_b29 : n0 ≤ b29 := Nat.le_trans z24 (Nat.le_of_eq g29.symm)
  have sz_b29 : h0.size ≤ b29 := Nat.le_trans K24.1 (Nat.le_of_eq g29.symm)
  have F29_0 := F24_0.ext E29
  have F29_1 := F24_1.ext E29
  have F29_2 := F24_2.ext E29
  have F29_3 := F24_3.ext E29
  have X29_0 := X24_0.ext E29
  have X29_1 := X24_1.ext E29
  have S29_0 := S24_0.ext E29
  have V29_0 := V_b10_24.ext E29
  have V29_1 := V24_1.ext E29
  have V29_2 := V24_2.ext E29
  have V29_3 := V24_3.ext E29
  have z29 : n0 ≤ h29.size := Nat.le_trans z24 E29.1
  have K29 : Keep h0 h29 [a] := K24.ext E29
  have V_b29 : Arv Z h29 b29 k29 .long (4 : Int32) [] (.long (0 : Int64)) := (Arv.new A29 (by decide)).pad (pad_rep [] (.long (0 : Int64)) 0)
  obtain ⟨cl30, Ar30, q30, S30, M30, H30, G30⟩ := id V29_1
  have hin30 : ¬ ((0 : Int32) < 0 ∨ cl30.slots.size ≤ ((0 : Int32)).toNatClampNeg) := inb_of S30 ⟨by decide, by decide⟩
  obtain ⟨T31, h31, X31, e31, W31, st31⟩ := stR X29 hx hZ e29 Ar30 (j := (0 : Int32)) hin30 rfl (own_stoA Ar30 q30 O12 (Ins.self Ea29)) (g := (mkF m 136 #[.val (.ref a), .val (.long q), .second, .val (.int (2 : Int32)), .val (.int lw), .val (.int (0 : Int32)), .val (.int (32768 : Int32))] [(.ref b29), (.int (0 : Int32)), (.ref b12)])) rfl rfl (hb hby own_d_prog_35_method_1_code_136)
  have V_b12_31 : Arv Z h31 b12 k12 (.array .long) (2 : Int32) [(.ref b29), .null] .null := Arv.set Ar30 q30 S30 M30 H30 G30 rfl W31 0 rfl (Nat.le_of_ble_eq_true rfl)
  have F31_0 := F29_0.other W31 (Or.inl ne_a_b12)
  have F31_1 := F29_1.other W31 (Or.inl ne_a_b12)
  have F31_2 := F29_2.other W31 (Or.inl ne_a_b12)
  have F31_3 := F29_3.other W31 (Or.inl ne_a_b12)
  have X31_0 := X29_0.wr W31
  have X31_1 := X29_1.wr W31
  have X31_2 := Ea29.wr W31
  have S31_0 := S29_0.wr W31
  have V31_0 := V29_0.other W31 ne_b10_b12
  have ne_b12_b16 : b12 ≠ b16 := Nat.ne_of_lt (Nat.lt_of_lt_of_le (V13_1).lt (Nat.le_of_eq g16.symm))
  have V31_2 := V29_2.other W31 (Ne.symm ne_b12_b16)
  have ne_b12_b22 : b12 ≠ b22 := Nat.ne_of_lt (Nat.lt_of_lt_of_le (V17_1).lt (Nat.le_of_eq g22.symm))
  have V31_3 := V29_3.other W31 (Ne.symm ne_b12_b22)
  have ne_b12_b29 : b12 ≠ b29 := Nat.ne_of_lt (Nat.lt_of_lt_of_le (V24_1).lt (Nat.le_of_eq g29.symm))
  have V31_4 := V_b29.other W31 (Ne.symm ne_b12_b29)
  have z31 : n0 ≤ h31.size := by rw [W31.size]; exact z29
  have K31 : Keep h0 h31 [a] := K29.wr W31 (Or.inr sz_b12)
  have N31 := Fr.snoc X31 N28 g_b12
  have pre32 : ∀ tt_, Steps p.tables e below (T31.setTop (mkF m 137 #[.val (.ref a), .val (.long q), .second, .val (.int (2 : Int32)), .val (.int lw), .val (.int (0 : Int32)), .val (.int (32768 : Int32))] [])) tt_ → Steps p.tables e below (s₁.setTop (entryFrame m #[(.ref a), (.long q)] 7)) tt_ := fun tt_ kk_ => pre25 tt_ (by
    show Steps p.tables e below (T24.setTop (mkF m 118 #[.val (.ref a), .val (.long q), .second, .val (.int (2 : Int32)), .val (.int lw), .val (.int (0 : Int32)), .val (.int (32768 : Int32))] [])) _
    refine XS.aloadN X24.here hx rfl (hb hby own_d_prog_35_method_1_code_118) rfl rfl ?_
    refine st26 _ ?_
    refine XS.iload X26.here hx rfl (hb hby own_d_prog_35_method_1_code_122) rfl ?_
    show Steps p.tables e below (T26.setTop (mkF m 124 #[.val (.ref a), .val (.long q), .second, .val (.int (2 : Int32)), .val (.int lw), .val (.int (0 : Int32)), .val (.int (32768 : Int32))] [(.int (0 : Int32)), (.ref b12)])) _
    refine XS.iload X26.here hx rfl (hb hby own_d_prog_35_method_1_code_124) rfl ?_
    refine XS.sipush X26.here hx rfl (hb hby own_d_prog_35_method_1_code_126) ?_
    refine XS.isub X26.here hx rfl (hb hby own_d_prog_35_method_1_code_129) rfl ?_
    show Steps p.tables e below (T26.setTop (mkF m 130 #[.val (.ref a), .val (.long q), .second, .val (.int (2 : Int32)), .val (.int lw), .val (.int (0 : Int32)), .val (.int (32768 : Int32))] [(.int ((32768 : Int32) - (32764 : Int32))), (.int (0 : Int32)), (.ref b12)])) _
    rw [fold27]
    show Steps p.tables e below (T26.setTop (mkF m 130 #[.val (.ref a), .val (.long q), .second, .val (.int (2 : Int32)), .val (.int lw), .val (.int (0 : Int32)), .val (.int (32768 : Int32))] [(.int (4 : Int32)), (.int (0 : Int32)), (.ref b12)])) _
    refine XS.iconst X26.here hx rfl (hb hby own_d_prog_35_method_1_code_130) ?_
    show Steps p.tables e below (T26.setTop (mkF m 131 #[.val (.ref a), .val (.long q), .second, .val (.int (2 : Int32)), .val (.int lw), .val (.int (0 : Int32)), .val (.int (32768 : Int32))] [(.int (0 : Int32)), (.int (4 : Int32)), (.int (0 : Int32)), (.ref b12)])) _
    refine st28 _ ?_
    refine st29 _ ?_
    refine st31 _ ?_
    exact kk_)
  obtain ⟨T33, X33, e33, st33⟩ := getF X31 hx hZ hown (host := "") (Or.inl (hw _ (List.mem_of_getElem? (i := 22) rfl))) Via.refl e31 F31_3 (g := (mkF m 138 #[.val (.ref a), .val (.long q), .second, .val (.int (2 : Int32)), .val (.int lw), .val (.int (0 : Int32)), .val (.int (32768 : Int32))] [(.ref a)])) rfl rfl (hb hby own_d_prog_35_method_1_code_138)
  have fold34 : ((2 : Int32) * (0 : Int32)) = (0 : Int32) := by decide +kernel
  obtain ⟨T35, X35, e35, st35⟩ := getF X33 hx hZ hown (host := "") (Or.inl (hw _ (List.mem_of_getElem? (i := 18) rfl))) Via.refl e33 F31_1 (g := (mkF m 146 #[.val (.ref a), .val (.long q), .second, .val (.int (2 : Int32)), .val (.int lw), .val (.int (0 : Int32)), .val (.int (32768 : Int32))] [(.ref a), (.int (0 : Int32)), (.ref b16)])) rfl rfl (hb hby own_d_prog_35_method_1_code_146)
  obtain ⟨cl36, Ar36, q36, S36, M36, H36, G36⟩ := id V31_0
  have hin36 : ¬ ((0 : Int32) < 0 ∨ cl36.slots.size ≤ ((0 : Int32)).toNatClampNeg) := inb_of S36 ⟨by decide, by decide⟩
  have hat36 : cl36.slots[((0 : Int32)).toNatClampNeg]? = some (.ref b22) := Has.at H36 hin36 rfl
  obtain ⟨cl37, Ar37, q37, S37, M37, H37, G37⟩ := id V31_2
  have hin37 : ¬ ((0 : Int32) < 0 ∨ cl37.slots.size ≤ ((0 : Int32)).toNatClampNeg) := inb_of S37 ⟨by decide, by decide⟩
  obtain ⟨T38, h38, X38, e38, W38, st38⟩ := stR X35 hx hZ e35 Ar37 (j := (0 : Int32)) hin37 rfl (own_stoA Ar37 q37 O16 (Ins.self X31_1)) (g := (mkF m 152 #[.val (.ref a), .val (.long q), .second, .val (.int (2 : Int32)), .val (.int lw), .val (.int (0 : Int32)), .val (.int (32768 : Int32))] [(.ref b22), (.int (0 : Int32)), (.ref b16)])) rfl rfl (hb hby own_d_prog_35_method_1_code_152)
  have V_b16_38 : Arv Z h38 b16 k16 (.array .long) (4 : Int32) [(.ref b22), .null, .null, .null] .null := Arv.set Ar37 q37 S37 M37 H37 G37 rfl W38 0 rfl (Nat.le_of_ble_eq_true rfl)
  have F38_0 := F31_0.other W38 (Or.inl ne_a_b16)
  have F38_1 := F31_1.other W38 (Or.inl ne_a_b16)
  have F38_2 := F31_2.other W38 (Or.inl ne_a_b16)
  have F38_3 := F31_3.other W38 (Or.inl ne_a_b16)
  have X38_0 := X31_0.wr W38
  have X38_1 := X31_1.wr W38
  have X38_2 := X31_2.wr W38
  have S38_0 := S31_0.wr W38
  have V38_0 := V31_0.other W38 ne_b10_b16
  have V38_1 := V_b12_31.other W38 ne_b12_b16
  have ne_b16_b22 : b16 ≠ b22 := Nat.ne_of_lt (Nat.lt_of_lt_of_le (V17_2).lt (Nat.le_of_eq g22.symm))
  have V38_3 := V31_3.other W38 (Ne.symm ne_b16_b22)
  have ne_b16_b29 : b16 ≠ b29 := Nat.ne_of_lt (Nat.lt_of_lt_of_le (V24_2).lt (Nat.le_of_eq g29.symm))
  have V38_4 := V31_4.other W38 (Ne.symm ne_b16_b29)
  have z38 : n0 ≤ h38.size := by rw [W38.size]; exact z31
  have K38 : Keep h0 h38 [a] := K31.wr W38 (Or.inr sz_b16)
  have N38 := Fr.snoc X38 N31 g_b16
  have pre39 : ∀ tt_, Steps p.tables e below (T38.setTop (mkF m 153 #[.val (.ref a), .val (.long q), .second, .val (.int (2 : Int32)), .val (.int lw), .val (.int (0 : Int32)), .val (.int (32768 : Int32))] [])) tt_ → Steps p.tables e below (s₁.setTop (entryFrame m #[(.ref a), (.long q)] 7)) tt_ := fun tt_ kk_ => pre32 tt_ (by
    show Steps p.tables e below (T31.setTop (mkF m 137 #[.val (.ref a), .val (.long q), .second, .val (.int (2 : Int32)), .val (.int lw), .val (.int (0 : Int32)), .val (.int (32768 : Int32))] [])) _
    refine XS.aloadN X31.here hx rfl (hb hby own_d_prog_35_method_1_code_137) rfl rfl ?_
    refine st33 _ ?_
    refine XS.iconst X33.here hx rfl (hb hby own_d_prog_35_method_1_code_141) ?_
    show Steps p.tables e below (T33.setTop (mkF m 142 #[.val (.ref a), .val (.long q), .second, .val (.int (2 : Int32)), .val (.int lw), .val (.int (0 : Int32)), .val (.int (32768 : Int32))] [(.int (2 : Int32)), (.ref b16)])) _
    refine XS.iload X33.here hx rfl (hb hby own_d_prog_35_method_1_code_142) rfl ?_
    refine XS.imul X33.here hx rfl (hb hby own_d_prog_35_method_1_code_144) rfl ?_
    show Steps p.tables e below (T33.setTop (mkF m 145 #[.val (.ref a), .val (.long q), .second, .val (.int (2 : Int32)), .val (.int lw), .val (.int (0 : Int32)), .val (.int (32768 : Int32))] [(.int ((2 : Int32) * (0 : Int32))), (.ref b16)])) _
    rw [fold34]
    show Steps p.tables e below (T33.setTop (mkF m 145 #[.val (.ref a), .val (.long q), .second, .val (.int (2 : Int32)), .val (.int lw), .val (.int (0 : Int32)), .val (.int (32768 : Int32))] [(.int (0 : Int32)), (.ref b16)])) _
    refine XS.aloadN X33.here hx rfl (hb hby own_d_prog_35_method_1_code_145) rfl rfl ?_
    refine st35 _ ?_
    refine XS.iload X35.here hx rfl (hb hby own_d_prog_35_method_1_code_149) rfl ?_
    refine X35.aaload hx (j := (0 : Int32)) (v := (.ref b22)) (by rw [e35]; exact Ar36.1) (State.isArrayOf_alike hZ.alike Ar36.2.1) rfl Ar36.2.2 hin36 hat36 (g := (mkF m 151 #[.val (.ref a), .val (.long q), .second, .val (.int (2 : Int32)), .val (.int lw), .val (.int (0 : Int32)), .val (.int (32768 : Int32))] [(.int (0 : Int32)), (.ref b10), (.int (0 : Int32)), (.ref b16)])) rfl rfl (hb hby own_d_prog_35_method_1_code_151) _ ?_
    refine st38 _ ?_
    exact kk_)
  obtain ⟨T40, X40, e40, st40⟩ := getF X38 hx hZ hown (host := "") (Or.inl (hw _ (List.mem_of_getElem? (i := 22) rfl))) Via.refl e38 F38_3 (g := (mkF m 162 #[.val (.ref a), .val (.long q), .second, .val (.int (2 : Int32)), .val (.int lw), .val (.int (0 : Int32)), .val (.int (32768 : Int32))] [(.ref a)])) rfl rfl (hb hby own_d_prog_35_method_1_code_162)
  have fold41 : ((2 : Int32) * (0 : Int32)) = (0 : Int32) := by decide +kernel
  have fold42 : ((0 : Int32) + (1 : Int32)) = (1 : Int32) := by decide +kernel
  obtain ⟨T43, X43, e43, st43⟩ := getF X40 hx hZ hown (host := "") (Or.inl (hw _ (List.mem_of_getElem? (i := 20) rfl))) Via.refl e40 F38_2 (g := (mkF m 172 #[.val (.ref a), .val (.long q), .second, .val (.int (2 : Int32)), .val (.int lw), .val (.int (0 : Int32)), .val (.int (32768 : Int32))] [(.ref a), (.int (1 : Int32)), (.ref b16)])) rfl rfl (hb hby own_d_prog_35_method_1_code_172)
  obtain ⟨cl44, Ar44, q44, S44, M44, H44, G44⟩ := id V38_1
  have hin44 : ¬ ((0 : Int32) < 0 ∨ cl44.slots.size ≤ ((0 : Int32)).toNatClampNeg) := inb_of S44 ⟨by decide, by decide⟩
  have hat44 : cl44.slots[((0 : Int32)).toNatClampNeg]? = some (.ref b29) := Has.at H44 hin44 rfl
  obtain ⟨cl45, Ar45, q45, S45, M45, H45, G45⟩ := id V_b16_38
  have hin45 : ¬ ((1 : Int32) < 0 ∨ cl45.slots.size ≤ ((1 : Int32)).toNatClampNeg) := inb_of S45 ⟨by decide, by decide⟩
  obtain ⟨T46, h46, X46, e46, W46, st46⟩ := stR X43 hx hZ e43 Ar45 (j := (1 : Int32)) hin45 rfl (own_stoA Ar45 q45 O16 (Ins.self X38_2)) (g := (mkF m 178 #[.val (.ref a), .val (.long q), .second, .val (.int (2 : Int32)), .val (.int lw), .val (.int (0 : Int32)), .val (.int (32768 : Int32))] [(.ref b29), (.int (1 : Int32)), (.ref b16)])) rfl rfl (hb hby own_d_prog_35_method_1_code_178)
  have V_b16_46 : Arv Z h46 b16 k16 (.array .long) (4 : Int32) [(.ref b22), (.ref b29), .null, .null] .null := Arv.set Ar45 q45 S45 M45 H45 G45 rfl W46 1 rfl (Nat.le_of_ble_eq_true rfl)
  have F46_0 := F38_0.other W46 (Or.inl ne_a_b16)
  have F46_1 := F38_1.other W46 (Or.inl ne_a_b16)
  have F46_2 := F38_2.other W46 (Or.inl ne_a_b16)
  have F46_3 := F38_3.other W46 (Or.inl ne_a_b16)
  have X46_0 := X38_0.wr W46
  have X46_1 := X38_1.wr W46
  have X46_2 := X38_2.wr W46
  have S46_0 := S38_0.wr W46
  have V46_0 := V38_0.other W46 ne_b10_b16
  have V46_1 := V38_1.other W46 ne_b12_b16
  have V46_3 := V38_3.other W46 (Ne.symm ne_b16_b22)
  have V46_4 := V38_4.other W46 (Ne.symm ne_b16_b29)
  have z46 : n0 ≤ h46.size := by rw [W46.size]; exact z38
  have K46 : Keep h0 h46 [a] := K38.wr W46 (Or.inr sz_b16)
  have N46 := Fr.snoc X46 N38 g_b16
  have fold47 : ((0 : Int32) + (1 : Int32)) = (1 : Int32) := by decide +kernel
  have pre48 : ∀ tt_, Steps p.tables e below (T46.setTop (mkF m 78 #[.val (.ref a), .val (.long q), .second, .val (.int (2 : Int32)), .val (.int lw), .val (.int (1 : Int32)), .val (.int (32768 : Int32))] [])) tt_ → Steps p.tables e below (s₁.setTop (entryFrame m #[(.ref a), (.long q)] 7)) tt_ := fun tt_ kk_ => pre39 tt_ (by
    show Steps p.tables e below (T38.setTop (mkF m 153 #[.val (.ref a), .val (.long q), .second, .val (.int (2 : Int32)), .val (.int lw), .val (.int (0 : Int32)), .val (.int (32768 : Int32))] [])) _
    refine XS.iload X38.here hx rfl (hb hby own_d_prog_35_method_1_code_153) rfl ?_
    show Steps p.tables e below (T38.setTop (mkF m 155 #[.val (.ref a), .val (.long q), .second, .val (.int (2 : Int32)), .val (.int lw), .val (.int (0 : Int32)), .val (.int (32768 : Int32))] [(.int (32768 : Int32))])) _
    refine XS.sipush X38.here hx rfl (hb hby own_d_prog_35_method_1_code_155) ?_
    refine XS.icmpNo X38.here hx rfl (hb hby own_d_prog_35_method_1_code_158) rfl (tlt ((by decide) : (32764 : Int32) < (32768 : Int32))).2.2.2 ?_
    refine XS.aloadN X38.here hx rfl (hb hby own_d_prog_35_method_1_code_161) rfl rfl ?_
    refine st40 _ ?_
    refine XS.iconst X40.here hx rfl (hb hby own_d_prog_35_method_1_code_165) ?_
    refine XS.iload X40.here hx rfl (hb hby own_d_prog_35_method_1_code_166) rfl ?_
    refine XS.imul X40.here hx rfl (hb hby own_d_prog_35_method_1_code_168) rfl ?_
    show Steps p.tables e below (T40.setTop (mkF m 169 #[.val (.ref a), .val (.long q), .second, .val (.int (2 : Int32)), .val (.int lw), .val (.int (0 : Int32)), .val (.int (32768 : Int32))] [(.int ((2 : Int32) * (0 : Int32))), (.ref b16)])) _
    rw [fold41]
    show Steps p.tables e below (T40.setTop (mkF m 169 #[.val (.ref a), .val (.long q), .second, .val (.int (2 : Int32)), .val (.int lw), .val (.int (0 : Int32)), .val (.int (32768 : Int32))] [(.int (0 : Int32)), (.ref b16)])) _
    refine XS.iconst X40.here hx rfl (hb hby own_d_prog_35_method_1_code_169) ?_
    refine XS.iadd X40.here hx rfl (hb hby own_d_prog_35_method_1_code_170) rfl ?_
    show Steps p.tables e below (T40.setTop (mkF m 171 #[.val (.ref a), .val (.long q), .second, .val (.int (2 : Int32)), .val (.int lw), .val (.int (0 : Int32)), .val (.int (32768 : Int32))] [(.int ((0 : Int32) + (1 : Int32))), (.ref b16)])) _
    rw [fold42]
    show Steps p.tables e below (T40.setTop (mkF m 171 #[.val (.ref a), .val (.long q), .second, .val (.int (2 : Int32)), .val (.int lw), .val (.int (0 : Int32)), .val (.int (32768 : Int32))] [(.int (1 : Int32)), (.ref b16)])) _
    refine XS.aloadN X40.here hx rfl (hb hby own_d_prog_35_method_1_code_171) rfl rfl ?_
    refine st43 _ ?_
    refine XS.iload X43.here hx rfl (hb hby own_d_prog_35_method_1_code_175) rfl ?_
    refine X43.aaload hx (j := (0 : Int32)) (v := (.ref b29)) (by rw [e43]; exact Ar44.1) (State.isArrayOf_alike hZ.alike Ar44.2.1) rfl Ar44.2.2 hin44 hat44 (g := (mkF m 177 #[.val (.ref a), .val (.long q), .second, .val (.int (2 : Int32)), .val (.int lw), .val (.int (0 : Int32)), .val (.int (32768 : Int32))] [(.int (0 : Int32)), (.ref b12), (.int (1 : Int32)), (.ref b16)])) rfl rfl (hb hby own_d_prog_35_method_1_code_177) _ ?_
    refine st46 _ ?_
    refine XS.iinc X46.here hx rfl (hb hby own_d_prog_35_method_1_code_179) rfl (l' := #[.val (.ref a), .val (.long q), .second, .val (.int (2 : Int32)), .val (.int lw), .val (.int ((0 : Int32) + (1 : Int32))), .val (.int (32768 : Int32))]) rfl ?_
    show Steps p.tables e below (T46.setTop (mkF m 182 #[.val (.ref a), .val (.long q), .second, .val (.int (2 : Int32)), .val (.int lw), .val (.int ((0 : Int32) + (1 : Int32))), .val (.int (32768 : Int32))] [])) _
    rw [fold47]
    show Steps p.tables e below (T46.setTop (mkF m 182 #[.val (.ref a), .val (.long q), .second, .val (.int (2 : Int32)), .val (.int lw), .val (.int (1 : Int32)), .val (.int (32768 : Int32))] [])) _
    refine XS.goto X46.here hx rfl (pc0 := 182) (pc' := 78) rfl (hb hby own_d_prog_35_method_1_code_182) (by decide) (by decide) ?_
    exact kk_)
  have fold49 : ((2 : Int32) - (1 : Int32)) = (1 : Int32) := by decide +kernel
  obtain ⟨T50, X50, e50, st50⟩ := getF X46 hx hZ hown (host := "") (Or.inl (hw _ (List.mem_of_getElem? (i := 18) rfl))) Via.refl e46 F46_1 (g := (mkF m 102 #[.val (.ref a), .val (.long q), .second, .val (.int (2 : Int32)), .val (.int lw), .val (.int (1 : Int32)), .val (.int lw)] [(.ref a)])) rfl rfl (hb hby own_d_prog_35_method_1_code_102)
  obtain ⟨_, _, ⟨T51, L51, k51, n51⟩, -, X51, ⟨Lc51, hQ51, l51, y51, z51⟩, st51⟩ := Jvm.LawKit.callS X50 hx (y := (⟨"java/lang/Math", "min", "(II)I"⟩ : MethodName)) hown (mvT hZ (hw _ (List.mem_of_getElem? (i := 24) rfl))) (mvT hZ (hw _ (List.mem_of_getElem? (i := 25) rfl))) (mvT hZ (hw _ (List.mem_of_getElem? (i := 26) rfl))) (mvT hZ (hw _ (List.mem_of_getElem? (i := 27) rfl))) (by decide) (backOf (W := 2) (rmMin l Z a0 hw [] lw (32764 : Int32) (own_min lw (32764 : Int32)) h46 n0 z46 rfl) hZ (hw _ (List.mem_of_getElem? (i := 27) rfl)) (hw _ (List.mem_of_getElem? (i := 26) rfl)) (by decide) (by decide)) (g := (mkF m 112 #[.val (.ref a), .val (.long q), .second, .val (.int (2 : Int32)), .val (.int lw), .val (.int (1 : Int32)), .val (.int lw)] [(.int (32764 : Int32)), (.int lw), (.int (1 : Int32)), (.ref b10)])) rfl (by rw [hml]; rfl) (argsL := [(.int lw), (.int (32764 : Int32))]) (rest := [(.int (1 : Int32)), (.ref b10)]) (lenOf own_pd0 rfl) rfl (by show 2 * 0 + _ ≤ _; exact Nat.le_of_eq rfl) (hb hby own_d_prog_35_method_1_code_112) (fun _ _ => ⟨rfl, e50, (by decide : 5 + 0 ≤ _), (by decide : 32776 + 0 ≤ _)⟩)
  dsimp only [Pt.U, Pt.locs, Pt.cells, Pt.slots] at X51 l51 y51 z51 st51 hQ51
  replace l51 := l51.symm; subst l51 y51 z51
  obtain ⟨rfl, N51q, e51⟩ := hQ51
  have N51 := Fr.app N46 N51q
  obtain ⟨T52, h52, k52, X52, e52, E52, A52, Ea52, st52⟩ := newPE X51 hx hZ (hw _ (List.mem_of_getElem? (i := 28) rfl)) e51 (g := (mkF m 115 #[.val (.ref a), .val (.long q), .second, .val (.int (2 : Int32)), .val (.int lw), .val (.int (1 : Int32)), .val (.int lw)] [(.int (own_min lw (32764 : Int32))), (.int (1 : Int32)), (.ref b10)])) rfl (hb hby own_d_prog_35_method_1_code_115) rfl (own_hneg hlb) (cap := 32764) (own_hcap hlb) (by decide) (by decide) (by decide) (ad := "[J") (by decide +kernel)
  obtain ⟨b52, g52⟩ : ∃ z, z = h46.size := ⟨_, rfl⟩
  rw [← g52] at A52 st52 Ea52
  have g_b52 : n0 ≤ b52 := Nat.le_trans z46 (Nat.le_of_eq g52.symm)
  have sz_b52 : h0.size ≤ b52 := Nat.le_trans K46.1 (Nat.le_of_eq g52.symm)
  have F52_0 := F46_1.ext E52
  have F52_1 := F46_2.ext E52
  have F52_2 := F46_3.ext E52
  have X52_0 := X46_0.ext E52
  have S52_0 := S46_0.ext E52
  have V52_0 := V46_0.ext E52
  have V52_1 := V46_1.ext E52
  have V52_2 := V_b16_46.ext E52
  have V52_3 := V46_3.ext E52
  have V52_4 := V46_4.ext E52
  have z52 : n0 ≤ h52.size := Nat.le_trans z46 E52.1
  have K52 : Keep h0 h52 [a] := K46.ext E52
  have V_b52 : Arv Z h52 b52 k52 .long (own_min lw (32764 : Int32)) [] (.long (0 : Int64)) := (Arv.new A52 (own_hneg hlb)).pad (pad_rep [] (.long (0 : Int64)) 0)
  obtain ⟨cl53, Ar53, q53, S53, M53, H53, G53⟩ := id V52_0
  have hin53 : ¬ ((1 : Int32) < 0 ∨ cl53.slots.size ≤ ((1 : Int32)).toNatClampNeg) := inb_of S53 ⟨by decide, by decide⟩
  obtain ⟨T54, h54, X54, e54, W54, st54⟩ := stR X52 hx hZ e52 Ar53 (j := (1 : Int32)) hin53 rfl (own_stoA Ar53 q53 O10 (Ins.self Ea52)) (g := (mkF m 117 #[.val (.ref a), .val (.long q), .second, .val (.int (2 : Int32)), .val (.int lw), .val (.int (1 : Int32)), .val (.int lw)] [(.ref b52), (.int (1 : Int32)), (.ref b10)])) rfl rfl (hb hby own_d_prog_35_method_1_code_117)
  have V_b10_54 : Arv Z h54 b10 k10 (.array .long) (2 : Int32) [(.ref b22), (.ref b52)] .null := Arv.set Ar53 q53 S53 M53 H53 G53 rfl W54 1 rfl (Nat.le_of_ble_eq_true rfl)
  have F54_0 := F52_0.other W54 (Or.inl ne_a_b10)
  have F54_1 := F52_1.other W54 (Or.inl ne_a_b10)
  have F54_2 := F52_2.other W54 (Or.inl ne_a_b10)
  have X54_0 := X52_0.wr W54
  have X54_1 := Ea52.wr W54
  have S54_0 := S52_0.wr W54
  have V54_1 := V52_1.other W54 (Ne.symm ne_b10_b12)
  have V54_2 := V52_2.other W54 (Ne.symm ne_b10_b16)
  have V54_3 := V52_3.other W54 (Ne.symm ne_b10_b22)
  have ne_b10_b29 : b10 ≠ b29 := Nat.ne_of_lt (Nat.lt_of_lt_of_le (V_b10_24).lt (Nat.le_of_eq g29.symm))
  have V54_4 := V52_4.other W54 (Ne.symm ne_b10_b29)
  have ne_b10_b52 : b10 ≠ b52 := Nat.ne_of_lt (Nat.lt_of_lt_of_le (V46_0).lt (Nat.le_of_eq g52.symm))
  have V54_5 := V_b52.other W54 (Ne.symm ne_b10_b52)
  have z54 : n0 ≤ h54.size := by rw [W54.size]; exact z52
  have K54 : Keep h0 h54 [a] := K52.wr W54 (Or.inr sz_b10)
  have N54 := Fr.snoc X54 N51 g_b10
  have pre55 : ∀ tt_, Steps p.tables e below (T54.setTop (mkF m 118 #[.val (.ref a), .val (.long q), .second, .val (.int (2 : Int32)), .val (.int lw), .val (.int (1 : Int32)), .val (.int lw)] [])) tt_ → Steps p.tables e below (s₁.setTop (entryFrame m #[(.ref a), (.long q)] 7)) tt_ := fun tt_ kk_ => pre48 tt_ (by
    show Steps p.tables e below (T46.setTop (mkF m 78 #[.val (.ref a), .val (.long q), .second, .val (.int (2 : Int32)), .val (.int lw), .val (.int (1 : Int32)), .val (.int (32768 : Int32))] [])) _
    refine XS.iload X46.here hx rfl (hb hby own_d_prog_35_method_1_code_78) rfl ?_
    refine XS.iloadN X46.here hx rfl (hb hby own_d_prog_35_method_1_code_80) rfl ?_
    refine XS.icmpNo X46.here hx rfl (hb hby own_d_prog_35_method_1_code_81) rfl (tlt ((by decide) : (1 : Int32) < (2 : Int32))).2.1 ?_
    refine XS.iload X46.here hx rfl (hb hby own_d_prog_35_method_1_code_84) rfl ?_
    refine XS.iloadN X46.here hx rfl (hb hby own_d_prog_35_method_1_code_86) rfl ?_
    show Steps p.tables e below (T46.setTop (mkF m 87 #[.val (.ref a), .val (.long q), .second, .val (.int (2 : Int32)), .val (.int lw), .val (.int (1 : Int32)), .val (.int (32768 : Int32))] [(.int (2 : Int32)), (.int (1 : Int32))])) _
    refine XS.iconst X46.here hx rfl (hb hby own_d_prog_35_method_1_code_87) ?_
    refine XS.isub X46.here hx rfl (hb hby own_d_prog_35_method_1_code_88) rfl ?_
    show Steps p.tables e below (T46.setTop (mkF m 89 #[.val (.ref a), .val (.long q), .second, .val (.int (2 : Int32)), .val (.int lw), .val (.int (1 : Int32)), .val (.int (32768 : Int32))] [(.int ((2 : Int32) - (1 : Int32))), (.int (1 : Int32))])) _
    rw [fold49]
    show Steps p.tables e below (T46.setTop (mkF m 89 #[.val (.ref a), .val (.long q), .second, .val (.int (2 : Int32)), .val (.int lw), .val (.int (1 : Int32)), .val (.int (32768 : Int32))] [(.int (1 : Int32)), (.int (1 : Int32))])) _
    refine XS.icmpYes X46.here hx rfl (pc0 := 89) (pc' := 97) rfl (hb hby own_d_prog_35_method_1_code_89) rfl (flt ((by decide) : ¬ ((1 : Int32) < (1 : Int32)))).2.1 (by decide) (by decide) ?_
    refine XS.iload X46.here hx rfl (hb hby own_d_prog_35_method_1_code_97) rfl ?_
    refine XS.istore X46.here hx rfl (hb hby own_d_prog_35_method_1_code_99) rfl (l' := #[.val (.ref a), .val (.long q), .second, .val (.int (2 : Int32)), .val (.int lw), .val (.int (1 : Int32)), .val (.int lw)]) rfl ?_
    refine XS.aloadN X46.here hx rfl (hb hby own_d_prog_35_method_1_code_101) rfl rfl ?_
    refine st50 _ ?_
    show Steps p.tables e below (T50.setTop (mkF m 105 #[.val (.ref a), .val (.long q), .second, .val (.int (2 : Int32)), .val (.int lw), .val (.int (1 : Int32)), .val (.int lw)] [(.ref b10)])) _
    refine XS.iload X50.here hx rfl (hb hby own_d_prog_35_method_1_code_105) rfl ?_
    refine XS.iload X50.here hx rfl (hb hby own_d_prog_35_method_1_code_107) rfl ?_
    refine XS.sipush X50.here hx rfl (hb hby own_d_prog_35_method_1_code_109) ?_
    show Steps p.tables e below (T50.setTop (mkF m 112 #[.val (.ref a), .val (.long q), .second, .val (.int (2 : Int32)), .val (.int lw), .val (.int (1 : Int32)), .val (.int lw)] [(.int (32764 : Int32)), (.int lw), (.int (1 : Int32)), (.ref b10)])) _
    refine st51 _ ?_
    refine st52 _ ?_
    refine st54 _ ?_
    exact kk_)
  obtain ⟨T56, X56, e56, st56⟩ := getF X54 hx hZ hown (host := "") (Or.inl (hw _ (List.mem_of_getElem? (i := 20) rfl))) Via.refl e54 F54_1 (g := (mkF m 119 #[.val (.ref a), .val (.long q), .second, .val (.int (2 : Int32)), .val (.int lw), .val (.int (1 : Int32)), .val (.int lw)] [(.ref a)])) rfl rfl (hb hby own_d_prog_35_method_1_code_119)
  obtain ⟨_, _, ⟨T57, L57, k57, n57⟩, -, X57, ⟨Lc57, hQ57, l57, y57, z57⟩, st57⟩ := Jvm.LawKit.callS X56 hx (y := (⟨"java/lang/Math", "max", "(II)I"⟩ : MethodName)) hown (mvT hZ (hw _ (List.mem_of_getElem? (i := 30) rfl))) (mvT hZ (hw _ (List.mem_of_getElem? (i := 31) rfl))) (mvT hZ (hw _ (List.mem_of_getElem? (i := 26) rfl))) (mvT hZ (hw _ (List.mem_of_getElem? (i := 32) rfl))) (by decide) (backOf (W := 2) (rmMax l Z a0 hw [] (lw - (32764 : Int32)) (0 : Int32) (own_max (lw - (32764 : Int32)) (0 : Int32)) h54 n0 z54 rfl) hZ (hw _ (List.mem_of_getElem? (i := 32) rfl)) (hw _ (List.mem_of_getElem? (i := 26) rfl)) (by decide) (by decide)) (g := (mkF m 131 #[.val (.ref a), .val (.long q), .second, .val (.int (2 : Int32)), .val (.int lw), .val (.int (1 : Int32)), .val (.int lw)] [(.int (0 : Int32)), (.int (lw - (32764 : Int32))), (.int (1 : Int32)), (.ref b12)])) rfl (by rw [hml]; rfl) (argsL := [(.int (lw - (32764 : Int32))), (.int (0 : Int32))]) (rest := [(.int (1 : Int32)), (.ref b12)]) (lenOf own_pd0 rfl) rfl (by show 2 * 0 + _ ≤ _; exact Nat.le_of_eq rfl) (hb hby own_d_prog_35_method_1_code_131) (fun _ _ => ⟨rfl, e56, (by decide : 6 + 0 ≤ _), (by decide : 65540 + 0 ≤ _)⟩)
  dsimp only [Pt.U, Pt.locs, Pt.cells, Pt.slots] at X57 l57 y57 z57 st57 hQ57
  replace l57 := l57.symm; subst l57 y57 z57
  obtain ⟨rfl, N57q, e57⟩ := hQ57
  have N57 := Fr.app N54 N57q
  obtain ⟨T58, h58, k58, X58, e58, E58, A58, Ea58, st58⟩ := newPE X57 hx hZ (hw _ (List.mem_of_getElem? (i := 28) rfl)) e57 (g := (mkF m 134 #[.val (.ref a), .val (.long q), .second, .val (.int (2 : Int32)), .val (.int lw), .val (.int (1 : Int32)), .val (.int lw)] [(.int (own_max (lw - (32764 : Int32)) (0 : Int32))), (.int (1 : Int32)), (.ref b12)])) rfl (hb hby own_d_prog_35_method_1_code_134) rfl (own_tneg hlb) (cap := 4) (own_tcap hlb) (by decide) (by decide) (by decide) (ad := "[J") (by decide +kernel)
  obtain ⟨b58, g58⟩ : ∃ z, z = h54.size := ⟨_, rfl⟩
  rw [← g58] at A58 st58 Ea58
  have g_b58 : n0 ≤ b58 := Nat.le_trans z54 (Nat.le_of_eq g58.symm)
  have sz_b58 : h0.size ≤ b58 := Nat.le_trans K54.1 (Nat.le_of_eq g58.symm)
  have F58_0 := F54_0.ext E58
  have F58_1 := F54_1.ext E58
  have F58_2 := F54_2.ext E58
  have X58_0 := X54_0.ext E58
  have X58_1 := X54_1.ext E58
  have S58_0 := S54_0.ext E58
  have V58_0 := V_b10_54.ext E58
  have V58_1 := V54_1.ext E58
  have V58_2 := V54_2.ext E58
  have V58_3 := V54_3.ext E58
  have V58_4 := V54_4.ext E58
  have V58_5 := V54_5.ext E58
  have z58 : n0 ≤ h58.size := Nat.le_trans z54 E58.1
  have K58 : Keep h0 h58 [a] := K54.ext E58
  have V_b58 : Arv Z h58 b58 k58 .long (own_max (lw - (32764 : Int32)) (0 : Int32)) [] (.long (0 : Int64)) := (Arv.new A58 (own_tneg hlb)).pad (pad_rep [] (.long (0 : Int64)) 0)
  obtain ⟨cl59, Ar59, q59, S59, M59, H59, G59⟩ := id V58_1
  have hin59 : ¬ ((1 : Int32) < 0 ∨ cl59.slots.size ≤ ((1 : Int32)).toNatClampNeg) := inb_of S59 ⟨by decide, by decide⟩
  obtain ⟨T60, h60, X60, e60, W60, st60⟩ := stR X58 hx hZ e58 Ar59 (j := (1 : Int32)) hin59 rfl (own_stoA Ar59 q59 O12 (Ins.self Ea58)) (g := (mkF m 136 #[.val (.ref a), .val (.long q), .second, .val (.int (2 : Int32)), .val (.int lw), .val (.int (1 : Int32)), .val (.int lw)] [(.ref b58), (.int (1 : Int32)), (.ref b12)])) rfl rfl (hb hby own_d_prog_35_method_1_code_136)
  have V_b12_60 : Arv Z h60 b12 k12 (.array .long) (2 : Int32) [(.ref b29), (.ref b58)] .null := Arv.set Ar59 q59 S59 M59 H59 G59 rfl W60 1 rfl (Nat.le_of_ble_eq_true rfl)
  have F60_0 := F58_0.other W60 (Or.inl ne_a_b12)
  have F60_1 := F58_1.other W60 (Or.inl ne_a_b12)
  have F60_2 := F58_2.other W60 (Or.inl ne_a_b12)
  have X60_0 := X58_0.wr W60
  have X60_1 := X58_1.wr W60
  have X60_2 := Ea58.wr W60
  have S60_0 := S58_0.wr W60
  have V60_0 := V58_0.other W60 ne_b10_b12
  have V60_2 := V58_2.other W60 (Ne.symm ne_b12_b16)
  have V60_3 := V58_3.other W60 (Ne.symm ne_b12_b22)
  have V60_4 := V58_4.other W60 (Ne.symm ne_b12_b29)
  have ne_b12_b52 : b12 ≠ b52 := Nat.ne_of_lt (Nat.lt_of_lt_of_le (V46_1).lt (Nat.le_of_eq g52.symm))
  have V60_5 := V58_5.other W60 (Ne.symm ne_b12_b52)
  have ne_b12_b58 : b12 ≠ b58 := Nat.ne_of_lt (Nat.lt_of_lt_of_le (V54_1).lt (Nat.le_of_eq g58.symm))
  have V60_6 := V_b58.other W60 (Ne.symm ne_b12_b58)
  have z60 : n0 ≤ h60.size := by rw [W60.size]; exact z58
  have K60 : Keep h0 h60 [a] := K58.wr W60 (Or.inr sz_b12)
  have N60 := Fr.snoc X60 N57 g_b12
  have pre61 : ∀ tt_, Steps p.tables e below (T60.setTop (mkF m 137 #[.val (.ref a), .val (.long q), .second, .val (.int (2 : Int32)), .val (.int lw), .val (.int (1 : Int32)), .val (.int lw)] [])) tt_ → Steps p.tables e below (s₁.setTop (entryFrame m #[(.ref a), (.long q)] 7)) tt_ := fun tt_ kk_ => pre55 tt_ (by
    show Steps p.tables e below (T54.setTop (mkF m 118 #[.val (.ref a), .val (.long q), .second, .val (.int (2 : Int32)), .val (.int lw), .val (.int (1 : Int32)), .val (.int lw)] [])) _
    refine XS.aloadN X54.here hx rfl (hb hby own_d_prog_35_method_1_code_118) rfl rfl ?_
    refine st56 _ ?_
    refine XS.iload X56.here hx rfl (hb hby own_d_prog_35_method_1_code_122) rfl ?_
    refine XS.iload X56.here hx rfl (hb hby own_d_prog_35_method_1_code_124) rfl ?_
    show Steps p.tables e below (T56.setTop (mkF m 126 #[.val (.ref a), .val (.long q), .second, .val (.int (2 : Int32)), .val (.int lw), .val (.int (1 : Int32)), .val (.int lw)] [(.int lw), (.int (1 : Int32)), (.ref b12)])) _
    refine XS.sipush X56.here hx rfl (hb hby own_d_prog_35_method_1_code_126) ?_
    refine XS.isub X56.here hx rfl (hb hby own_d_prog_35_method_1_code_129) rfl ?_
    refine XS.iconst X56.here hx rfl (hb hby own_d_prog_35_method_1_code_130) ?_
    show Steps p.tables e below (T56.setTop (mkF m 131 #[.val (.ref a), .val (.long q), .second, .val (.int (2 : Int32)), .val (.int lw), .val (.int (1 : Int32)), .val (.int lw)] [(.int (0 : Int32)), (.int (lw - (32764 : Int32))), (.int (1 : Int32)), (.ref b12)])) _
    refine st57 _ ?_
    refine st58 _ ?_
    refine st60 _ ?_
    exact kk_)
  obtain ⟨T62, X62, e62, st62⟩ := getF X60 hx hZ hown (host := "") (Or.inl (hw _ (List.mem_of_getElem? (i := 22) rfl))) Via.refl e60 F60_2 (g := (mkF m 138 #[.val (.ref a), .val (.long q), .second, .val (.int (2 : Int32)), .val (.int lw), .val (.int (1 : Int32)), .val (.int lw)] [(.ref a)])) rfl rfl (hb hby own_d_prog_35_method_1_code_138)
  have fold63 : ((2 : Int32) * (1 : Int32)) = (2 : Int32) := by decide +kernel
  obtain ⟨T64, X64, e64, st64⟩ := getF X62 hx hZ hown (host := "") (Or.inl (hw _ (List.mem_of_getElem? (i := 18) rfl))) Via.refl e62 F60_0 (g := (mkF m 146 #[.val (.ref a), .val (.long q), .second, .val (.int (2 : Int32)), .val (.int lw), .val (.int (1 : Int32)), .val (.int lw)] [(.ref a), (.int (2 : Int32)), (.ref b16)])) rfl rfl (hb hby own_d_prog_35_method_1_code_146)
  obtain ⟨cl65, Ar65, q65, S65, M65, H65, G65⟩ := id V60_0
  have hin65 : ¬ ((1 : Int32) < 0 ∨ cl65.slots.size ≤ ((1 : Int32)).toNatClampNeg) := inb_of S65 ⟨by decide, by decide⟩
  have hat65 : cl65.slots[((1 : Int32)).toNatClampNeg]? = some (.ref b52) := Has.at H65 hin65 rfl
  obtain ⟨cl66, Ar66, q66, S66, M66, H66, G66⟩ := id V60_2
  have hin66 : ¬ ((2 : Int32) < 0 ∨ cl66.slots.size ≤ ((2 : Int32)).toNatClampNeg) := inb_of S66 ⟨by decide, by decide⟩
  obtain ⟨T67, h67, X67, e67, W67, st67⟩ := stR X64 hx hZ e64 Ar66 (j := (2 : Int32)) hin66 rfl (own_stoA Ar66 q66 O16 (Ins.self X60_1)) (g := (mkF m 152 #[.val (.ref a), .val (.long q), .second, .val (.int (2 : Int32)), .val (.int lw), .val (.int (1 : Int32)), .val (.int lw)] [(.ref b52), (.int (2 : Int32)), (.ref b16)])) rfl rfl (hb hby own_d_prog_35_method_1_code_152)
  have V_b16_67 : Arv Z h67 b16 k16 (.array .long) (4 : Int32) [(.ref b22), (.ref b29), (.ref b52), .null] .null := Arv.set Ar66 q66 S66 M66 H66 G66 rfl W67 2 rfl (Nat.le_of_ble_eq_true rfl)
  have F67_0 := F60_0.other W67 (Or.inl ne_a_b16)
  have F67_1 := F60_1.other W67 (Or.inl ne_a_b16)
  have F67_2 := F60_2.other W67 (Or.inl ne_a_b16)
  have X67_0 := X60_0.wr W67
  have X67_1 := X60_1.wr W67
  have X67_2 := X60_2.wr W67
  have S67_0 := S60_0.wr W67
  have V67_0 := V60_0.other W67 ne_b10_b16
  have V67_1 := V_b12_60.other W67 ne_b12_b16
  have V67_3 := V60_3.other W67 (Ne.symm ne_b16_b22)
  have V67_4 := V60_4.other W67 (Ne.symm ne_b16_b29)
  have ne_b16_b52 : b16 ≠ b52 := Nat.ne_of_lt (Nat.lt_of_lt_of_le (V_b16_46).lt (Nat.le_of_eq g52.symm))
  have V67_5 := V60_5.other W67 (Ne.symm ne_b16_b52)
  have ne_b16_b58 : b16 ≠ b58 := Nat.ne_of_lt (Nat.lt_of_lt_of_le (V54_2).lt (Nat.le_of_eq g58.symm))
  have V67_6 := V60_6.other W67 (Ne.symm ne_b16_b58)
  have z67 : n0 ≤ h67.size := by rw [W67.size]; exact z60
  have K67 : Keep h0 h67 [a] := K60.wr W67 (Or.inr sz_b16)
  have N67 := Fr.snoc X67 N60 g_b16
  have pre68 : ∀ tt_, Steps p.tables e below (T67.setTop (mkF m 153 #[.val (.ref a), .val (.long q), .second, .val (.int (2 : Int32)), .val (.int lw), .val (.int (1 : Int32)), .val (.int lw)] [])) tt_ → Steps p.tables e below (s₁.setTop (entryFrame m #[(.ref a), (.long q)] 7)) tt_ := fun tt_ kk_ => pre61 tt_ (by
    show Steps p.tables e below (T60.setTop (mkF m 137 #[.val (.ref a), .val (.long q), .second, .val (.int (2 : Int32)), .val (.int lw), .val (.int (1 : Int32)), .val (.int lw)] [])) _
    refine XS.aloadN X60.here hx rfl (hb hby own_d_prog_35_method_1_code_137) rfl rfl ?_
    refine st62 _ ?_
    refine XS.iconst X62.here hx rfl (hb hby own_d_prog_35_method_1_code_141) ?_
    refine XS.iload X62.here hx rfl (hb hby own_d_prog_35_method_1_code_142) rfl ?_
    show Steps p.tables e below (T62.setTop (mkF m 144 #[.val (.ref a), .val (.long q), .second, .val (.int (2 : Int32)), .val (.int lw), .val (.int (1 : Int32)), .val (.int lw)] [(.int (1 : Int32)), (.int (2 : Int32)), (.ref b16)])) _
    refine XS.imul X62.here hx rfl (hb hby own_d_prog_35_method_1_code_144) rfl ?_
    show Steps p.tables e below (T62.setTop (mkF m 145 #[.val (.ref a), .val (.long q), .second, .val (.int (2 : Int32)), .val (.int lw), .val (.int (1 : Int32)), .val (.int lw)] [(.int ((2 : Int32) * (1 : Int32))), (.ref b16)])) _
    rw [fold63]
    show Steps p.tables e below (T62.setTop (mkF m 145 #[.val (.ref a), .val (.long q), .second, .val (.int (2 : Int32)), .val (.int lw), .val (.int (1 : Int32)), .val (.int lw)] [(.int (2 : Int32)), (.ref b16)])) _
    refine XS.aloadN X62.here hx rfl (hb hby own_d_prog_35_method_1_code_145) rfl rfl ?_
    refine st64 _ ?_
    refine XS.iload X64.here hx rfl (hb hby own_d_prog_35_method_1_code_149) rfl ?_
    refine X64.aaload hx (j := (1 : Int32)) (v := (.ref b52)) (by rw [e64]; exact Ar65.1) (State.isArrayOf_alike hZ.alike Ar65.2.1) rfl Ar65.2.2 hin65 hat65 (g := (mkF m 151 #[.val (.ref a), .val (.long q), .second, .val (.int (2 : Int32)), .val (.int lw), .val (.int (1 : Int32)), .val (.int lw)] [(.int (1 : Int32)), (.ref b10), (.int (2 : Int32)), (.ref b16)])) rfl rfl (hb hby own_d_prog_35_method_1_code_151) _ ?_
    refine st67 _ ?_
    exact kk_)
  obtain ⟨T69, X69, e69, st69⟩ := getF X67 hx hZ hown (host := "") (Or.inl (hw _ (List.mem_of_getElem? (i := 22) rfl))) Via.refl e67 F67_2 (g := (mkF m 162 #[.val (.ref a), .val (.long q), .second, .val (.int (2 : Int32)), .val (.int lw), .val (.int (1 : Int32)), .val (.int lw)] [(.ref a)])) rfl rfl (hb hby own_d_prog_35_method_1_code_162)
  have fold70 : ((2 : Int32) * (1 : Int32)) = (2 : Int32) := by decide +kernel
  have fold71 : ((2 : Int32) + (1 : Int32)) = (3 : Int32) := by decide +kernel
  obtain ⟨T72, X72, e72, st72⟩ := getF X69 hx hZ hown (host := "") (Or.inl (hw _ (List.mem_of_getElem? (i := 20) rfl))) Via.refl e69 F67_1 (g := (mkF m 172 #[.val (.ref a), .val (.long q), .second, .val (.int (2 : Int32)), .val (.int lw), .val (.int (1 : Int32)), .val (.int lw)] [(.ref a), (.int (3 : Int32)), (.ref b16)])) rfl rfl (hb hby own_d_prog_35_method_1_code_172)
  obtain ⟨cl73, Ar73, q73, S73, M73, H73, G73⟩ := id V67_1
  have hin73 : ¬ ((1 : Int32) < 0 ∨ cl73.slots.size ≤ ((1 : Int32)).toNatClampNeg) := inb_of S73 ⟨by decide, by decide⟩
  have hat73 : cl73.slots[((1 : Int32)).toNatClampNeg]? = some (.ref b58) := Has.at H73 hin73 rfl
  obtain ⟨cl74, Ar74, q74, S74, M74, H74, G74⟩ := id V_b16_67
  have hin74 : ¬ ((3 : Int32) < 0 ∨ cl74.slots.size ≤ ((3 : Int32)).toNatClampNeg) := inb_of S74 ⟨by decide, by decide⟩
  obtain ⟨T75, h75, X75, e75, W75, st75⟩ := stR X72 hx hZ e72 Ar74 (j := (3 : Int32)) hin74 rfl (own_stoA Ar74 q74 O16 (Ins.self X67_2)) (g := (mkF m 178 #[.val (.ref a), .val (.long q), .second, .val (.int (2 : Int32)), .val (.int lw), .val (.int (1 : Int32)), .val (.int lw)] [(.ref b58), (.int (3 : Int32)), (.ref b16)])) rfl rfl (hb hby own_d_prog_35_method_1_code_178)
  have V_b16_75 : Arv Z h75 b16 k16 (.array .long) (4 : Int32) [(.ref b22), (.ref b29), (.ref b52), (.ref b58)] .null := Arv.set Ar74 q74 S74 M74 H74 G74 rfl W75 3 rfl (Nat.le_of_ble_eq_true rfl)
  have F75_0 := F67_0.other W75 (Or.inl ne_a_b16)
  have F75_1 := F67_1.other W75 (Or.inl ne_a_b16)
  have F75_2 := F67_2.other W75 (Or.inl ne_a_b16)
  have X75_0 := X67_0.wr W75
  have X75_1 := X67_1.wr W75
  have X75_2 := X67_2.wr W75
  have S75_0 := S67_0.wr W75
  have V75_0 := V67_0.other W75 ne_b10_b16
  have V75_1 := V67_1.other W75 ne_b12_b16
  have V75_3 := V67_3.other W75 (Ne.symm ne_b16_b22)
  have V75_4 := V67_4.other W75 (Ne.symm ne_b16_b29)
  have V75_5 := V67_5.other W75 (Ne.symm ne_b16_b52)
  have V75_6 := V67_6.other W75 (Ne.symm ne_b16_b58)
  have z75 : n0 ≤ h75.size := by rw [W75.size]; exact z67
  have K75 : Keep h0 h75 [a] := K67.wr W75 (Or.inr sz_b16)
  have N75 := Fr.snoc X75 N67 g_b16
  have fold76 : ((1 : Int32) + (1 : Int32)) = (2 : Int32) := by decide +kernel
  have pre77 : ∀ tt_, Steps p.tables e below (T75.setTop (mkF m 78 #[.val (.ref a), .val (.long q), .second, .val (.int (2 : Int32)), .val (.int lw), .val (.int (2 : Int32)), .val (.int lw)] [])) tt_ → Steps p.tables e below (s₁.setTop (entryFrame m #[(.ref a), (.long q)] 7)) tt_ := fun tt_ kk_ => pre68 tt_ (by
    show Steps p.tables e below (T67.setTop (mkF m 153 #[.val (.ref a), .val (.long q), .second, .val (.int (2 : Int32)), .val (.int lw), .val (.int (1 : Int32)), .val (.int lw)] [])) _
    refine XS.iload X67.here hx rfl (hb hby own_d_prog_35_method_1_code_153) rfl ?_
    refine XS.sipush X67.here hx rfl (hb hby own_d_prog_35_method_1_code_155) ?_
    show Steps p.tables e below (T67.setTop (mkF m 158 #[.val (.ref a), .val (.long q), .second, .val (.int (2 : Int32)), .val (.int lw), .val (.int (1 : Int32)), .val (.int lw)] [(.int (32764 : Int32)), (.int lw)])) _
    refine XS.icmpNo X67.here hx rfl (hb hby own_d_prog_35_method_1_code_158) rfl (tlt (ht : (32764 : Int32) < lw)).2.2.2 ?_
    refine XS.aloadN X67.here hx rfl (hb hby own_d_prog_35_method_1_code_161) rfl rfl ?_
    refine st69 _ ?_
    refine XS.iconst X69.here hx rfl (hb hby own_d_prog_35_method_1_code_165) ?_
    refine XS.iload X69.here hx rfl (hb hby own_d_prog_35_method_1_code_166) rfl ?_
    refine XS.imul X69.here hx rfl (hb hby own_d_prog_35_method_1_code_168) rfl ?_
    show Steps p.tables e below (T69.setTop (mkF m 169 #[.val (.ref a), .val (.long q), .second, .val (.int (2 : Int32)), .val (.int lw), .val (.int (1 : Int32)), .val (.int lw)] [(.int ((2 : Int32) * (1 : Int32))), (.ref b16)])) _
    rw [fold70]
    show Steps p.tables e below (T69.setTop (mkF m 169 #[.val (.ref a), .val (.long q), .second, .val (.int (2 : Int32)), .val (.int lw), .val (.int (1 : Int32)), .val (.int lw)] [(.int (2 : Int32)), (.ref b16)])) _
    refine XS.iconst X69.here hx rfl (hb hby own_d_prog_35_method_1_code_169) ?_
    show Steps p.tables e below (T69.setTop (mkF m 170 #[.val (.ref a), .val (.long q), .second, .val (.int (2 : Int32)), .val (.int lw), .val (.int (1 : Int32)), .val (.int lw)] [(.int (1 : Int32)), (.int (2 : Int32)), (.ref b16)])) _
    refine XS.iadd X69.here hx rfl (hb hby own_d_prog_35_method_1_code_170) rfl ?_
    show Steps p.tables e below (T69.setTop (mkF m 171 #[.val (.ref a), .val (.long q), .second, .val (.int (2 : Int32)), .val (.int lw), .val (.int (1 : Int32)), .val (.int lw)] [(.int ((2 : Int32) + (1 : Int32))), (.ref b16)])) _
    rw [fold71]
    show Steps p.tables e below (T69.setTop (mkF m 171 #[.val (.ref a), .val (.long q), .second, .val (.int (2 : Int32)), .val (.int lw), .val (.int (1 : Int32)), .val (.int lw)] [(.int (3 : Int32)), (.ref b16)])) _
    refine XS.aloadN X69.here hx rfl (hb hby own_d_prog_35_method_1_code_171) rfl rfl ?_
    refine st72 _ ?_
    refine XS.iload X72.here hx rfl (hb hby own_d_prog_35_method_1_code_175) rfl ?_
    refine X72.aaload hx (j := (1 : Int32)) (v := (.ref b58)) (by rw [e72]; exact Ar73.1) (State.isArrayOf_alike hZ.alike Ar73.2.1) rfl Ar73.2.2 hin73 hat73 (g := (mkF m 177 #[.val (.ref a), .val (.long q), .second, .val (.int (2 : Int32)), .val (.int lw), .val (.int (1 : Int32)), .val (.int lw)] [(.int (1 : Int32)), (.ref b12), (.int (3 : Int32)), (.ref b16)])) rfl rfl (hb hby own_d_prog_35_method_1_code_177) _ ?_
    refine st75 _ ?_
    refine XS.iinc X75.here hx rfl (hb hby own_d_prog_35_method_1_code_179) rfl (l' := #[.val (.ref a), .val (.long q), .second, .val (.int (2 : Int32)), .val (.int lw), .val (.int ((1 : Int32) + (1 : Int32))), .val (.int lw)]) rfl ?_
    show Steps p.tables e below (T75.setTop (mkF m 182 #[.val (.ref a), .val (.long q), .second, .val (.int (2 : Int32)), .val (.int lw), .val (.int ((1 : Int32) + (1 : Int32))), .val (.int lw)] [])) _
    rw [fold76]
    show Steps p.tables e below (T75.setTop (mkF m 182 #[.val (.ref a), .val (.long q), .second, .val (.int (2 : Int32)), .val (.int lw), .val (.int (2 : Int32)), .val (.int lw)] [])) _
    refine XS.goto X75.here hx rfl (pc0 := 182) (pc' := 78) rfl (hb hby own_d_prog_35_method_1_code_182) (by decide) (by decide) ?_
    exact kk_)
  have pre78 : ∀ tt_, Steps p.tables e below (T75.setTop (mkF m 185 #[.val (.ref a), .val (.long q), .second, .val (.int (2 : Int32)), .val (.int lw), .val (.int (2 : Int32)), .val (.int lw)] [])) tt_ → Steps p.tables e below (s₁.setTop (entryFrame m #[(.ref a), (.long q)] 7)) tt_ := fun tt_ kk_ => pre77 tt_ (by
    show Steps p.tables e below (T75.setTop (mkF m 78 #[.val (.ref a), .val (.long q), .second, .val (.int (2 : Int32)), .val (.int lw), .val (.int (2 : Int32)), .val (.int lw)] [])) _
    refine XS.iload X75.here hx rfl (hb hby own_d_prog_35_method_1_code_78) rfl ?_
    refine XS.iloadN X75.here hx rfl (hb hby own_d_prog_35_method_1_code_80) rfl ?_
    refine XS.icmpYes X75.here hx rfl (pc0 := 81) (pc' := 185) rfl (hb hby own_d_prog_35_method_1_code_81) rfl (flt ((by decide) : ¬ ((2 : Int32) < (2 : Int32)))).2.1 (by decide) (by decide) ?_
    exact kk_)
  obtain ⟨fs, hr, hrun, hended, hW, hsame⟩ := X75.leave (v := none) (fun _ => rfl)
  refine ⟨_, _, pre78 _ ?_, hrun, hended, _, _, rfl, ?_, ⟨_, rfl⟩, hW, hsame.mono (by decide) (by decide)⟩
  · show Steps p.tables e below (T75.setTop (mkF m 185 #[.val (.ref a), .val (.long q), .second, .val (.int (2 : Int32)), .val (.int lw), .val (.int (2 : Int32)), .val (.int lw)] [])) _
    exact X75.returnOut hx Bd.returns (hb hby own_d_prog_35_method_1_code_185) hr
  · show QI Z a 2 lw h0 n0 _ T75.heap _
    rw [e75]
    have H1 : ∀ pg : Nat, pg < 2 → ∃ r, ([(.ref b22), (.ref b52)] : List Value).getD pg .null = .ref r ∧ ([(.ref b22), (.ref b29), (.ref b52), (.ref b58)] : List Value).getD (2 * pg) .null = .ref r ∧ own_Len Z h75 r .long (own_lenH 2 lw pg) := by
      intro pg hp
      obtain rfl | rfl := own_lt2 hp
      · exact ⟨b22, rfl, rfl, own_Len.of (Arv.arh V75_3)⟩
      · exact ⟨b52, rfl, rfl, own_Len.of (Arv.arh V75_5)⟩
    have H2 : ∀ pg : Nat, pg < 2 → (pg + 1 < 2 ∨ (32764 : Int32) < lw) → ∃ r, ([(.ref b29), (.ref b58)] : List Value).getD pg .null = .ref r ∧ ([(.ref b22), (.ref b29), (.ref b52), (.ref b58)] : List Value).getD (2 * pg + 1) .null = .ref r ∧ own_Len Z h75 r .long (own_lenT 2 lw pg) := by
      intro pg hp hq
      obtain rfl | rfl := own_lt2 hp
      · exact ⟨b29, rfl, rfl, own_Len.of (Arv.arh V75_4)⟩
      · exact ⟨b58, rfl, rfl, own_Len.of (Arv.arh V75_6)⟩
    exact ⟨rfl, N75, K75, b10, _, _, b12, _, _, b16, _, _, _, F75_0, F75_1, F75_2, V75_0, V75_1, V_b16_75, by rw [if_pos ht]; decide, H1, H2⟩
theorem own_ef_rmI_2_0 (m : MethodId) (y0 : Addr) (y1 : Int64) : entryFrame m #[(.ref y0), (.long y1)] 7 = mkF m 0 #[.val (.ref y0), .val (.long y1), .second, .unset, .unset, .unset, .unset] [] := by first | (simp [entryFrame, mkF, argsToLocals, Value.category]; done) | rfl
set_option maxRecDepth 65536 in
set_option maxHeartbeats 40000000 in
theorem rmI_2_0 (l : Launch) (Z : State) (a0 : Array Value) (hw : ∀ d ∈ tables_1, d.before a0 Z = true) (ws : List Jvm.Cond) (a : Addr) (q : Int64) (lw : Int32) (h0 : Heap) (n0 : Nat) (Z0 : n0 ≤ h0.size) (E_a : Exa Z h0 a "com/example/elderflower/elderflower/PagedWords") (g_a : n0 ≤ a) (F_size : Fld Z h0 a "com/example/elderflower/elderflower/PagedWords" "size" "J" (.long (0 : Int64))) (F_heads : Fld Z h0 a "com/example/elderflower/elderflower/PagedWords" "heads" "[[J" .null) (F_tails : Fld Z h0 a "com/example/elderflower/elderflower/PagedWords" "tails" "[[J" .null) (F_arrays : Fld Z h0 a "com/example/elderflower/elderflower/PagedWords" "arrays" "[[J" .null) (S_PAGE_SHIFT : Sta Z h0 "com/example/elderflower/elderflower/PagedWords" "PAGE_SHIFT" "I" (.int (15 : Int32))) (hpg : ((((q + (32768 : Int64)) - (1 : Int64)).toUInt64 >>> ((15 : Int32) &&& 0x3f).toInt64.toUInt64).toInt64).toInt32 = Int32.ofNat 2) (hlw : (q - Int64.ofNat ((2 - 1) * 32768)).toInt32 = lw) (hlb : own_LW lw) (ht : ¬ (32764 : Int32) < lw) :
    MetFree l (⟨"com/example/elderflower/elderflower/PagedWords", "<init>", "(J)V"⟩ : MethodName) (head1 (Jvm.Cond.code (⟨"com/example/elderflower/elderflower/PagedWords", "<init>", "(J)V"⟩ : MethodName) prog_35_method_1_code 7 none :: ws) ({ frames := 1, cells := 11, slots := 131088, locals := 15 } : Room)) (fun ar_ U => ar_ = #[(.ref a), (.long q)] ∧ Z.Warmed39 U.vm ∧ U.heap = h0) (fun _ _ _ _ _ => True) (fun _ U o U' => ∃ v L, o = .returned v ∧ QI Z a 2 lw h0 n0 v U'.heap L ∧ FrameEnd U o U' L ({ frames := 1, cells := 11, slots := 131088, locals := 15 } : Room).cells ({ frames := 1, cells := 11, slots := 131088, locals := 15 } : Room).slots) := by
  refine MetFree.of_bodySF (plainFor_of_name own_pn0) hisR ?_
  intro p e s m args below meth c s₁ Bd hml0 hP hK
  obtain ⟨rfl, hZ, hh⟩ := hP
  have hx := Bd.exec
  have hby := Bd.bytes
  have hml : c.maxLocals = 7 := hml0
  have hown : s.vm.findClass "com/example/elderflower/elderflower/PagedWords" = some m.cls := findClass_of_methodNamed Bd.named
  have hnm := (name_of_methodNamed Bd.named Bd.method).1
  have X0 : Stand p l e ({ frames := 1, cells := 11, slots := 131088, locals := 15 } : Room) s m #[(.ref a), (.long q)] below meth c s₁ [] 0 0 := Stand.of_body Bd
  have e0 : s₁.heap = h0 := by rw [← hh, Bd.state]; rfl
  have N0 := Fr.nil n0
  have pre0 : ∀ tt_, Steps p.tables e below (s₁.setTop (mkF m 0 #[.val (.ref a), .val (.long q), .second, .unset, .unset, .unset, .unset] [])) tt_ → Steps p.tables e below (s₁.setTop (entryFrame m #[(.ref a), (.long q)] 7)) tt_ := fun tt_ kk_ => castTop (own_ef_rmI_2_0 m a q) kk_
  obtain ⟨T1, X1, e1, st1⟩ := initO X0 hx hZ hown (hw _ (List.mem_of_getElem? (i := 8) rfl)) (hw _ (List.mem_of_getElem? (i := 9) rfl)) (hw _ (List.mem_of_getElem? (i := 10) rfl)) e0 (g := (mkF m 1 #[.val (.ref a), .val (.long q), .second, .unset, .unset, .unset, .unset] [(.ref a)])) rfl (by rw [hml]; rfl) rfl (hb hby own_d_prog_35_method_1_code_1) (by decide) (W := 0) (by show 2 * 0 + _ ≤ _; exact Nat.le_of_eq rfl) (by decide)
  obtain ⟨T2, X2, e2, st2⟩ := getS2 X1 hx hZ hown (host := "") (Or.inl (hw _ (List.mem_of_getElem? (i := 12) rfl))) Via.refl e1 S_PAGE_SHIFT (g := (mkF m 11 #[.val (.ref a), .val (.long q), .second, .unset, .unset, .unset, .unset] [(.long ((q + (32768 : Int64)) - (1 : Int64)))])) rfl (hb hby own_d_prog_35_method_1_code_11)
  have hpg' : (((((q + (32768 : Int64)) - (1 : Int64)).toUInt64 >>> ((15 : Int32) &&& 0x3f).toInt64.toUInt64).toInt64).toInt32) = (2 : Int32) := hpg
  have pre3 : ∀ tt_, Steps p.tables e below (T2.setTop (mkF m 16 #[.val (.ref a), .val (.long q), .second, .unset, .unset, .unset, .unset] [(.int (((((q + (32768 : Int64)) - (1 : Int64)).toUInt64 >>> ((15 : Int32) &&& 0x3f).toInt64.toUInt64).toInt64).toInt32))])) tt_ → Steps p.tables e below (s₁.setTop (entryFrame m #[(.ref a), (.long q)] 7)) tt_ := fun tt_ kk_ => pre0 tt_ (by
    show Steps p.tables e below (s₁.setTop (mkF m 0 #[.val (.ref a), .val (.long q), .second, .unset, .unset, .unset, .unset] [])) _
    refine XS.aloadN X0.here hx rfl (hb hby own_d_prog_35_method_1_code_0) rfl rfl ?_
    refine st1 _ ?_
    refine XS.lloadN X1.here hx rfl (hb hby own_d_prog_35_method_1_code_4) rfl ?_
    refine X1.ldc2Long hx hown (mvT hZ (hw _ (List.mem_of_getElem? (i := 11) rfl))) (g := (mkF m 5 #[.val (.ref a), .val (.long q), .second, .unset, .unset, .unset, .unset] [(.long q)])) rfl (hb hby own_d_prog_35_method_1_code_5) _ ?_
    refine XS.ladd X1.here hx rfl (hb hby own_d_prog_35_method_1_code_8) rfl ?_
    refine XS.lconst X1.here hx rfl (hb hby own_d_prog_35_method_1_code_9) ?_
    show Steps p.tables e below (T1.setTop (mkF m 10 #[.val (.ref a), .val (.long q), .second, .unset, .unset, .unset, .unset] [(.long (1 : Int64)), (.long (q + (32768 : Int64)))])) _
    refine XS.lsub X1.here hx rfl (hb hby own_d_prog_35_method_1_code_10) rfl ?_
    refine st2 _ ?_
    refine XS.lushr X2.here hx rfl (hb hby own_d_prog_35_method_1_code_14) rfl ?_
    refine XS.l2i X2.here hx rfl (hb hby own_d_prog_35_method_1_code_15) rfl ?_
    exact kk_)
  rw [hpg'] at pre3
  have fold4 : ((2 : Int32) - (1 : Int32)) = (1 : Int32) := by decide +kernel
  have fold5 : ((1 : Int32).toInt64) = (1 : Int64) := by decide +kernel
  obtain ⟨T6, X6, e6, st6⟩ := getS2 X2 hx hZ hown (host := "") (Or.inl (hw _ (List.mem_of_getElem? (i := 12) rfl))) Via.refl e2 S_PAGE_SHIFT (g := (mkF m 22 #[.val (.ref a), .val (.long q), .second, .val (.int (2 : Int32)), .unset, .unset, .unset] [(.long (1 : Int64)), (.long q)])) rfl (hb hby own_d_prog_35_method_1_code_22)
  have fold7 : ((1 : Int64) <<< ((15 : Int32) &&& 0x3f).toInt64) = (32768 : Int64) := by decide +kernel
  have hlw' : ((q - (32768 : Int64)).toInt32) = lw := by rw [← hlw]; rfl
  have pre8 : ∀ tt_, Steps p.tables e below (T6.setTop (mkF m 28 #[.val (.ref a), .val (.long q), .second, .val (.int (2 : Int32)), .unset, .unset, .unset] [(.int ((q - (32768 : Int64)).toInt32))])) tt_ → Steps p.tables e below (s₁.setTop (entryFrame m #[(.ref a), (.long q)] 7)) tt_ := fun tt_ kk_ => pre3 tt_ (by
    show Steps p.tables e below (T2.setTop (mkF m 16 #[.val (.ref a), .val (.long q), .second, .unset, .unset, .unset, .unset] [(.int (2 : Int32))])) _
    refine XS.istoreN X2.here hx rfl (hb hby own_d_prog_35_method_1_code_16) rfl (l' := #[.val (.ref a), .val (.long q), .second, .val (.int (2 : Int32)), .unset, .unset, .unset]) rfl ?_
    refine XS.lloadN X2.here hx rfl (hb hby own_d_prog_35_method_1_code_17) rfl ?_
    refine XS.iloadN X2.here hx rfl (hb hby own_d_prog_35_method_1_code_18) rfl ?_
    show Steps p.tables e below (T2.setTop (mkF m 19 #[.val (.ref a), .val (.long q), .second, .val (.int (2 : Int32)), .unset, .unset, .unset] [(.int (2 : Int32)), (.long q)])) _
    refine XS.iconst X2.here hx rfl (hb hby own_d_prog_35_method_1_code_19) ?_
    refine XS.isub X2.here hx rfl (hb hby own_d_prog_35_method_1_code_20) rfl ?_
    show Steps p.tables e below (T2.setTop (mkF m 21 #[.val (.ref a), .val (.long q), .second, .val (.int (2 : Int32)), .unset, .unset, .unset] [(.int ((2 : Int32) - (1 : Int32))), (.long q)])) _
    rw [fold4]
    show Steps p.tables e below (T2.setTop (mkF m 21 #[.val (.ref a), .val (.long q), .second, .val (.int (2 : Int32)), .unset, .unset, .unset] [(.int (1 : Int32)), (.long q)])) _
    refine XS.i2l X2.here hx rfl (hb hby own_d_prog_35_method_1_code_21) rfl ?_
    show Steps p.tables e below (T2.setTop (mkF m 22 #[.val (.ref a), .val (.long q), .second, .val (.int (2 : Int32)), .unset, .unset, .unset] [(.long ((1 : Int32).toInt64)), (.long q)])) _
    rw [fold5]
    show Steps p.tables e below (T2.setTop (mkF m 22 #[.val (.ref a), .val (.long q), .second, .val (.int (2 : Int32)), .unset, .unset, .unset] [(.long (1 : Int64)), (.long q)])) _
    refine st6 _ ?_
    refine XS.lshl X6.here hx rfl (hb hby own_d_prog_35_method_1_code_25) rfl ?_
    show Steps p.tables e below (T6.setTop (mkF m 26 #[.val (.ref a), .val (.long q), .second, .val (.int (2 : Int32)), .unset, .unset, .unset] [(.long ((1 : Int64) <<< ((15 : Int32) &&& 0x3f).toInt64)), (.long q)])) _
    rw [fold7]
    show Steps p.tables e below (T6.setTop (mkF m 26 #[.val (.ref a), .val (.long q), .second, .val (.int (2 : Int32)), .unset, .unset, .unset] [(.long (32768 : Int64)), (.long q)])) _
    refine XS.lsub X6.here hx rfl (hb hby own_d_prog_35_method_1_code_26) rfl ?_
    refine XS.l2i X6.here hx rfl (hb hby own_d_prog_35_method_1_code_27) rfl ?_
    exact kk_)
  rw [hlw'] at pre8
  obtain ⟨T9, h9, X9, e9, W9, st9⟩ := putF X6 hx hZ hown (host := "") (Or.inl (hw _ (List.mem_of_getElem? (i := 14) rfl))) Via.refl e6 F_size E_a (Or.inr ⟨(hw _ (List.mem_of_getElem? (i := 15) rfl)), rfl, hnm⟩) (hw _ (List.mem_of_getElem? (i := 3) rfl)) (ty := .long) (by decide) rfl rfl (g := (mkF m 32 #[.val (.ref a), .val (.long q), .second, .val (.int (2 : Int32)), .val (.int lw), .unset, .unset] [(.long q), (.ref a)])) rfl rfl (hb hby own_d_prog_35_method_1_code_32)
  have F9_0 := F_size.same W9
  have F9_1 := F_heads.other W9 (Or.inr (slot_ne (Or.inr (hw _ (List.mem_of_getElem? (i := 19) rfl))) (Or.inr (hw _ (List.mem_of_getElem? (i := 15) rfl))) (by decide) (t := (.array (.array .long))) (t' := .long) (by decide) (by decide)))
  have F9_2 := F_tails.other W9 (Or.inr (slot_ne (Or.inr (hw _ (List.mem_of_getElem? (i := 21) rfl))) (Or.inr (hw _ (List.mem_of_getElem? (i := 15) rfl))) (by decide) (t := (.array (.array .long))) (t' := .long) (by decide) (by decide)))
  have F9_3 := F_arrays.other W9 (Or.inr (slot_ne (Or.inr (hw _ (List.mem_of_getElem? (i := 23) rfl))) (Or.inr (hw _ (List.mem_of_getElem? (i := 15) rfl))) (by decide) (t := (.array (.array .long))) (t' := .long) (by decide) (by decide)))
  have X9_0 := E_a.wr W9
  have S9_0 := S_PAGE_SHIFT.wr W9
  have z9 : n0 ≤ h9.size := by rw [W9.size]; exact Z0
  have K9 : Keep h0 h9 [a] := (Keep.refl h0 [a]).wr W9 (Or.inl (by simp))
  have N9 := Fr.snoc X9 N0 g_a
  obtain ⟨T10, h10, k10, X10, e10, E10, A10, O10, st10⟩ := own_newRA X9 hx hZ hown (hw _ (List.mem_of_getElem? (i := 16) rfl)) (hw _ (List.mem_of_getElem? (i := 17) rfl)) (by decide +kernel) e9 (g := (mkF m 37 #[.val (.ref a), .val (.long q), .second, .val (.int (2 : Int32)), .val (.int lw), .unset, .unset] [(.int (2 : Int32)), (.ref a)])) rfl (hb hby own_d_prog_35_method_1_code_37) rfl (by decide) (cap := 2) (by decide) (by decide) (by decide) (by decide)
  obtain ⟨b10, g10⟩ : ∃ z, z = h9.size := ⟨_, rfl⟩
  rw [← g10] at A10 st10
  have g_b10 : n0 ≤ b10 := Nat.le_trans z9 (Nat.le_of_eq g10.symm)
  have sz_b10 : h0.size ≤ b10 := Nat.le_trans K9.1 (Nat.le_of_eq g10.symm)
  have F10_0 := F9_0.ext E10
  have F10_1 := F9_1.ext E10
  have F10_2 := F9_2.ext E10
  have F10_3 := F9_3.ext E10
  have X10_0 := X9_0.ext E10
  have S10_0 := S9_0.ext E10
  have z10 : n0 ≤ h10.size := Nat.le_trans z9 E10.1
  have K10 : Keep h0 h10 [a] := K9.ext E10
  have V_b10 : Arv Z h10 b10 k10 (.array .long) (2 : Int32) [.null, .null] .null := (Arv.new A10 (by decide)).pad (pad_rep [] .null 2)
  obtain ⟨T11, h11, X11, e11, W11, st11⟩ := putF X10 hx hZ hown (host := "") (Or.inl (hw _ (List.mem_of_getElem? (i := 18) rfl))) Via.refl e10 F10_1 X10_0 (Or.inr ⟨(hw _ (List.mem_of_getElem? (i := 19) rfl)), rfl, hnm⟩) (hw _ (List.mem_of_getElem? (i := 3) rfl)) (ty := (.array (.array .long))) (by decide) rfl rfl (g := (mkF m 40 #[.val (.ref a), .val (.long q), .second, .val (.int (2 : Int32)), .val (.int lw), .unset, .unset] [(.ref b10), (.ref a)])) rfl rfl (hb hby own_d_prog_35_method_1_code_40)
  have F11_0 := F10_0.other W11 (Or.inr (slot_ne (Or.inr (hw _ (List.mem_of_getElem? (i := 15) rfl))) (Or.inr (hw _ (List.mem_of_getElem? (i := 19) rfl))) (by decide) (t := .long) (t' := (.array (.array .long))) (by decide) (by decide)))
  have F11_1 := F10_1.same W11
  have F11_2 := F10_2.other W11 (Or.inr (slot_ne (Or.inr (hw _ (List.mem_of_getElem? (i := 21) rfl))) (Or.inr (hw _ (List.mem_of_getElem? (i := 19) rfl))) (by decide) (t := (.array (.array .long))) (t' := (.array (.array .long))) (by decide) (by decide)))
  have F11_3 := F10_3.other W11 (Or.inr (slot_ne (Or.inr (hw _ (List.mem_of_getElem? (i := 23) rfl))) (Or.inr (hw _ (List.mem_of_getElem? (i := 19) rfl))) (by decide) (t := (.array (.array .long))) (t' := (.array (.array .long))) (by decide) (by decide)))
  have X11_0 := X10_0.wr W11
  have S11_0 := S10_0.wr W11
  have ne_a_b10 : a ≠ b10 := Nat.ne_of_lt (Nat.lt_of_lt_of_le (X9_0).lt (Nat.le_of_eq g10.symm))
  have V11_0 := V_b10.other W11 (Ne.symm ne_a_b10)
  have z11 : n0 ≤ h11.size := by rw [W11.size]; exact z10
  have K11 : Keep h0 h11 [a] := K10.wr W11 (Or.inl (by simp))
  have N11 := Fr.snoc X11 N9 g_a
  obtain ⟨T12, h12, k12, X12, e12, E12, A12, O12, st12⟩ := own_newRA X11 hx hZ hown (hw _ (List.mem_of_getElem? (i := 16) rfl)) (hw _ (List.mem_of_getElem? (i := 17) rfl)) (by decide +kernel) e11 (g := (mkF m 45 #[.val (.ref a), .val (.long q), .second, .val (.int (2 : Int32)), .val (.int lw), .unset, .unset] [(.int (2 : Int32)), (.ref a)])) rfl (hb hby own_d_prog_35_method_1_code_45) rfl (by decide) (cap := 2) (by decide) (by decide) (by decide) (by decide)
  obtain ⟨b12, g12⟩ : ∃ z, z = h11.size := ⟨_, rfl⟩
  rw [← g12] at A12 st12
  have g_b12 : n0 ≤ b12 := Nat.le_trans z11 (Nat.le_of_eq g12.symm)
  have sz_b12 : h0.size ≤ b12 := Nat.le_trans K11.1 (Nat.le_of_eq g12.symm)
  have F12_0 := F11_0.ext E12
  have F12_1 := F11_1.ext E12
  have F12_2 := F11_2.ext E12
  have F12_3 := F11_3.ext E12
  have X12_0 := X11_0.ext E12
  have S12_0 := S11_0.ext E12
  have V12_0 := V11_0.ext E12
  have z12 : n0 ≤ h12.size := Nat.le_trans z11 E12.1
  have K12 : Keep h0 h12 [a] := K11.ext E12
  have V_b12 : Arv Z h12 b12 k12 (.array .long) (2 : Int32) [.null, .null] .null := (Arv.new A12 (by decide)).pad (pad_rep [] .null 2)
  obtain ⟨T13, h13, X13, e13, W13, st13⟩ := putF X12 hx hZ hown (host := "") (Or.inl (hw _ (List.mem_of_getElem? (i := 20) rfl))) Via.refl e12 F12_2 X12_0 (Or.inr ⟨(hw _ (List.mem_of_getElem? (i := 21) rfl)), rfl, hnm⟩) (hw _ (List.mem_of_getElem? (i := 3) rfl)) (ty := (.array (.array .long))) (by decide) rfl rfl (g := (mkF m 48 #[.val (.ref a), .val (.long q), .second, .val (.int (2 : Int32)), .val (.int lw), .unset, .unset] [(.ref b12), (.ref a)])) rfl rfl (hb hby own_d_prog_35_method_1_code_48)
  have F13_0 := F12_0.other W13 (Or.inr (slot_ne (Or.inr (hw _ (List.mem_of_getElem? (i := 15) rfl))) (Or.inr (hw _ (List.mem_of_getElem? (i := 21) rfl))) (by decide) (t := .long) (t' := (.array (.array .long))) (by decide) (by decide)))
  have F13_1 := F12_1.other W13 (Or.inr (slot_ne (Or.inr (hw _ (List.mem_of_getElem? (i := 19) rfl))) (Or.inr (hw _ (List.mem_of_getElem? (i := 21) rfl))) (by decide) (t := (.array (.array .long))) (t' := (.array (.array .long))) (by decide) (by decide)))
  have F13_2 := F12_2.same W13
  have F13_3 := F12_3.other W13 (Or.inr (slot_ne (Or.inr (hw _ (List.mem_of_getElem? (i := 23) rfl))) (Or.inr (hw _ (List.mem_of_getElem? (i := 21) rfl))) (by decide) (t := (.array (.array .long))) (t' := (.array (.array .long))) (by decide) (by decide)))
  have X13_0 := X12_0.wr W13
  have S13_0 := S12_0.wr W13
  have V13_0 := V12_0.other W13 (Ne.symm ne_a_b10)
  have ne_a_b12 : a ≠ b12 := Nat.ne_of_lt (Nat.lt_of_lt_of_le (X11_0).lt (Nat.le_of_eq g12.symm))
  have V13_1 := V_b12.other W13 (Ne.symm ne_a_b12)
  have z13 : n0 ≤ h13.size := by rw [W13.size]; exact z12
  have K13 : Keep h0 h13 [a] := K12.wr W13 (Or.inl (by simp))
  have N13 := Fr.snoc X13 N11 g_a
  have fold14 : ((2 : Int32) * (2 : Int32)) = (4 : Int32) := by decide +kernel
  have fold15 : ((4 : Int32) - (1 : Int32)) = (3 : Int32) := by decide +kernel
  obtain ⟨T16, h16, k16, X16, e16, E16, A16, O16, st16⟩ := own_newRA X13 hx hZ hown (hw _ (List.mem_of_getElem? (i := 16) rfl)) (hw _ (List.mem_of_getElem? (i := 17) rfl)) (by decide +kernel) e13 (g := (mkF m 69 #[.val (.ref a), .val (.long q), .second, .val (.int (2 : Int32)), .val (.int lw), .unset, .unset] [(.int (3 : Int32)), (.ref a)])) rfl (hb hby own_d_prog_35_method_1_code_69) rfl (by decide) (cap := 3) (by decide) (by decide) (by decide) (by decide)
  obtain ⟨b16, g16⟩ : ∃ z, z = h13.size := ⟨_, rfl⟩
  rw [← g16] at A16 st16
  have g_b16 : n0 ≤ b16 := Nat.le_trans z13 (Nat.le_of_eq g16.symm)
  have sz_b16 : h0.size ≤ b16 := Nat.le_trans K13.1 (Nat.le_of_eq g16.symm)
  have F16_0 := F13_0.ext E16
  have F16_1 := F13_1.ext E16
  have F16_2 := F13_2.ext E16
  have F16_3 := F13_3.ext E16
  have X16_0 := X13_0.ext E16
  have S16_0 := S13_0.ext E16
  have V16_0 := V13_0.ext E16
  have V16_1 := V13_1.ext E16
  have z16 : n0 ≤ h16.size := Nat.le_trans z13 E16.1
  have K16 : Keep h0 h16 [a] := K13.ext E16
  have V_b16 : Arv Z h16 b16 k16 (.array .long) (3 : Int32) [.null, .null, .null] .null := (Arv.new A16 (by decide)).pad (pad_rep [] .null 3)
  obtain ⟨T17, h17, X17, e17, W17, st17⟩ := putF X16 hx hZ hown (host := "") (Or.inl (hw _ (List.mem_of_getElem? (i := 22) rfl))) Via.refl e16 F16_3 X16_0 (Or.inr ⟨(hw _ (List.mem_of_getElem? (i := 23) rfl)), rfl, hnm⟩) (hw _ (List.mem_of_getElem? (i := 3) rfl)) (ty := (.array (.array .long))) (by decide) rfl rfl (g := (mkF m 72 #[.val (.ref a), .val (.long q), .second, .val (.int (2 : Int32)), .val (.int lw), .unset, .unset] [(.ref b16), (.ref a)])) rfl rfl (hb hby own_d_prog_35_method_1_code_72)
  have F17_0 := F16_0.other W17 (Or.inr (slot_ne (Or.inr (hw _ (List.mem_of_getElem? (i := 15) rfl))) (Or.inr (hw _ (List.mem_of_getElem? (i := 23) rfl))) (by decide) (t := .long) (t' := (.array (.array .long))) (by decide) (by decide)))
  have F17_1 := F16_1.other W17 (Or.inr (slot_ne (Or.inr (hw _ (List.mem_of_getElem? (i := 19) rfl))) (Or.inr (hw _ (List.mem_of_getElem? (i := 23) rfl))) (by decide) (t := (.array (.array .long))) (t' := (.array (.array .long))) (by decide) (by decide)))
  have F17_2 := F16_2.other W17 (Or.inr (slot_ne (Or.inr (hw _ (List.mem_of_getElem? (i := 21) rfl))) (Or.inr (hw _ (List.mem_of_getElem? (i := 23) rfl))) (by decide) (t := (.array (.array .long))) (t' := (.array (.array .long))) (by decide) (by decide)))
  have F17_3 := F16_3.same W17
  have X17_0 := X16_0.wr W17
  have S17_0 := S16_0.wr W17
  have V17_0 := V16_0.other W17 (Ne.symm ne_a_b10)
  have V17_1 := V16_1.other W17 (Ne.symm ne_a_b12)
  have ne_a_b16 : a ≠ b16 := Nat.ne_of_lt (Nat.lt_of_lt_of_le (X13_0).lt (Nat.le_of_eq g16.symm))
  have V17_2 := V_b16.other W17 (Ne.symm ne_a_b16)
  have z17 : n0 ≤ h17.size := by rw [W17.size]; exact z16
  have K17 : Keep h0 h17 [a] := K16.wr W17 (Or.inl (by simp))
  have N17 := Fr.snoc X17 N13 g_a
  have pre18 : ∀ tt_, Steps p.tables e below (T17.setTop (mkF m 78 #[.val (.ref a), .val (.long q), .second, .val (.int (2 : Int32)), .val (.int lw), .val (.int (0 : Int32)), .unset] [])) tt_ → Steps p.tables e below (s₁.setTop (entryFrame m #[(.ref a), (.long q)] 7)) tt_ := fun tt_ kk_ => pre8 tt_ (by
    show Steps p.tables e below (T6.setTop (mkF m 28 #[.val (.ref a), .val (.long q), .second, .val (.int (2 : Int32)), .unset, .unset, .unset] [(.int lw)])) _
    refine XS.istore X6.here hx rfl (hb hby own_d_prog_35_method_1_code_28) rfl (l' := #[.val (.ref a), .val (.long q), .second, .val (.int (2 : Int32)), .val (.int lw), .unset, .unset]) rfl ?_
    refine XS.aloadN X6.here hx rfl (hb hby own_d_prog_35_method_1_code_30) rfl rfl ?_
    refine XS.lloadN X6.here hx rfl (hb hby own_d_prog_35_method_1_code_31) rfl ?_
    refine st9 _ ?_
    refine XS.aloadN X9.here hx rfl (hb hby own_d_prog_35_method_1_code_35) rfl rfl ?_
    refine XS.iloadN X9.here hx rfl (hb hby own_d_prog_35_method_1_code_36) rfl ?_
    refine st10 _ ?_
    refine st11 _ ?_
    refine XS.aloadN X11.here hx rfl (hb hby own_d_prog_35_method_1_code_43) rfl rfl ?_
    show Steps p.tables e below (T11.setTop (mkF m 44 #[.val (.ref a), .val (.long q), .second, .val (.int (2 : Int32)), .val (.int lw), .unset, .unset] [(.ref a)])) _
    refine XS.iloadN X11.here hx rfl (hb hby own_d_prog_35_method_1_code_44) rfl ?_
    refine st12 _ ?_
    refine st13 _ ?_
    refine XS.aloadN X13.here hx rfl (hb hby own_d_prog_35_method_1_code_51) rfl rfl ?_
    refine XS.iconst X13.here hx rfl (hb hby own_d_prog_35_method_1_code_52) ?_
    refine XS.iloadN X13.here hx rfl (hb hby own_d_prog_35_method_1_code_53) rfl ?_
    refine XS.imul X13.here hx rfl (hb hby own_d_prog_35_method_1_code_54) rfl ?_
    show Steps p.tables e below (T13.setTop (mkF m 55 #[.val (.ref a), .val (.long q), .second, .val (.int (2 : Int32)), .val (.int lw), .unset, .unset] [(.int ((2 : Int32) * (2 : Int32))), (.ref a)])) _
    rw [fold14]
    show Steps p.tables e below (T13.setTop (mkF m 55 #[.val (.ref a), .val (.long q), .second, .val (.int (2 : Int32)), .val (.int lw), .unset, .unset] [(.int (4 : Int32)), (.ref a)])) _
    refine XS.iload X13.here hx rfl (hb hby own_d_prog_35_method_1_code_55) rfl ?_
    show Steps p.tables e below (T13.setTop (mkF m 57 #[.val (.ref a), .val (.long q), .second, .val (.int (2 : Int32)), .val (.int lw), .unset, .unset] [(.int lw), (.int (4 : Int32)), (.ref a)])) _
    refine XS.sipush X13.here hx rfl (hb hby own_d_prog_35_method_1_code_57) ?_
    refine XS.icmpYes X13.here hx rfl (pc0 := 60) (pc' := 67) rfl (hb hby own_d_prog_35_method_1_code_60) rfl (flt (ht : ¬ ((32764 : Int32) < lw))).2.2.2 (by decide) (by decide) ?_
    refine XS.iconst X13.here hx rfl (hb hby own_d_prog_35_method_1_code_67) ?_
    refine XS.isub X13.here hx rfl (hb hby own_d_prog_35_method_1_code_68) rfl ?_
    show Steps p.tables e below (T13.setTop (mkF m 69 #[.val (.ref a), .val (.long q), .second, .val (.int (2 : Int32)), .val (.int lw), .unset, .unset] [(.int ((4 : Int32) - (1 : Int32))), (.ref a)])) _
    rw [fold15]
    show Steps p.tables e below (T13.setTop (mkF m 69 #[.val (.ref a), .val (.long q), .second, .val (.int (2 : Int32)), .val (.int lw), .unset, .unset] [(.int (3 : Int32)), (.ref a)])) _
    refine st16 _ ?_
    refine st17 _ ?_
    refine XS.iconst X17.here hx rfl (hb hby own_d_prog_35_method_1_code_75) ?_
    refine XS.istore X17.here hx rfl (hb hby own_d_prog_35_method_1_code_76) rfl (l' := #[.val (.ref a), .val (.long q), .second, .val (.int (2 : Int32)), .val (.int lw), .val (.int (0 : Int32)), .unset]) rfl ?_
    exact kk_)
  have fold19 : ((2 : Int32) - (1 : Int32)) = (1 : Int32) := by decide +kernel
  obtain ⟨T20, X20, e20, st20⟩ := getF X17 hx hZ hown (host := "") (Or.inl (hw _ (List.mem_of_getElem? (i := 18) rfl))) Via.refl e17 F17_1 (g := (mkF m 102 #[.val (.ref a), .val (.long q), .second, .val (.int (2 : Int32)), .val (.int lw), .val (.int (0 : Int32)), .val (.int (32768 : Int32))] [(.ref a)])) rfl rfl (hb hby own_d_prog_35_method_1_code_102)
  obtain ⟨_, _, ⟨T21, L21, k21, n21⟩, -, X21, ⟨Lc21, hQ21, l21, y21, z21⟩, st21⟩ := Jvm.LawKit.callS X20 hx (y := (⟨"java/lang/Math", "min", "(II)I"⟩ : MethodName)) hown (mvT hZ (hw _ (List.mem_of_getElem? (i := 24) rfl))) (mvT hZ (hw _ (List.mem_of_getElem? (i := 25) rfl))) (mvT hZ (hw _ (List.mem_of_getElem? (i := 26) rfl))) (mvT hZ (hw _ (List.mem_of_getElem? (i := 27) rfl))) (by decide) (backOf (W := 2) (rmMin l Z a0 hw [] (32768 : Int32) (32764 : Int32) (32764 : Int32) h17 n0 z17 (by decide)) hZ (hw _ (List.mem_of_getElem? (i := 27) rfl)) (hw _ (List.mem_of_getElem? (i := 26) rfl)) (by decide) (by decide)) (g := (mkF m 112 #[.val (.ref a), .val (.long q), .second, .val (.int (2 : Int32)), .val (.int lw), .val (.int (0 : Int32)), .val (.int (32768 : Int32))] [(.int (32764 : Int32)), (.int (32768 : Int32)), (.int (0 : Int32)), (.ref b10)])) rfl (by rw [hml]; rfl) (argsL := [(.int (32768 : Int32)), (.int (32764 : Int32))]) (rest := [(.int (0 : Int32)), (.ref b10)]) (lenOf own_pd0 rfl) rfl (by show 2 * 0 + _ ≤ _; exact Nat.le_of_eq rfl) (hb hby own_d_prog_35_method_1_code_112) (fun _ _ => ⟨rfl, e20, (by decide : 3 + 0 ≤ _), (by decide : 7 + 0 ≤ _)⟩)
  dsimp only [Pt.U, Pt.locs, Pt.cells, Pt.slots] at X21 l21 y21 z21 st21 hQ21
  replace l21 := l21.symm; subst l21 y21 z21
  obtain ⟨rfl, N21q, e21⟩ := hQ21
  have N21 := Fr.app N17 N21q
  obtain ⟨T22, h22, k22, X22, e22, E22, A22, Ea22, st22⟩ := newPE X21 hx hZ (hw _ (List.mem_of_getElem? (i := 28) rfl)) e21 (g := (mkF m 115 #[.val (.ref a), .val (.long q), .second, .val (.int (2 : Int32)), .val (.int lw), .val (.int (0 : Int32)), .val (.int (32768 : Int32))] [(.int (32764 : Int32)), (.int (0 : Int32)), (.ref b10)])) rfl (hb hby own_d_prog_35_method_1_code_115) rfl (by decide) (cap := 32764) (by decide) (by decide) (by decide) (by decide) (ad := "[J") (by decide +kernel)
  obtain ⟨b22, g22⟩ : ∃ z, z = h17.size := ⟨_, rfl⟩
  rw [← g22] at A22 st22 Ea22
  have g_b22 : n0 ≤ b22 := Nat.le_trans z17 (Nat.le_of_eq g22.symm)
  have sz_b22 : h0.size ≤ b22 := Nat.le_trans K17.1 (Nat.le_of_eq g22.symm)
  have F22_0 := F17_0.ext E22
  have F22_1 := F17_1.ext E22
  have F22_2 := F17_2.ext E22
  have F22_3 := F17_3.ext E22
  have X22_0 := X17_0.ext E22
  have S22_0 := S17_0.ext E22
  have V22_0 := V17_0.ext E22
  have V22_1 := V17_1.ext E22
  have V22_2 := V17_2.ext E22
  have z22 : n0 ≤ h22.size := Nat.le_trans z17 E22.1
  have K22 : Keep h0 h22 [a] := K17.ext E22
  have V_b22 : Arv Z h22 b22 k22 .long (32764 : Int32) [] (.long (0 : Int64)) := (Arv.new A22 (by decide)).pad (pad_rep [] (.long (0 : Int64)) 0)
  obtain ⟨cl23, Ar23, q23, S23, M23, H23, G23⟩ := id V22_0
  have hin23 : ¬ ((0 : Int32) < 0 ∨ cl23.slots.size ≤ ((0 : Int32)).toNatClampNeg) := inb_of S23 ⟨by decide, by decide⟩
  obtain ⟨T24, h24, X24, e24, W24, st24⟩ := stR X22 hx hZ e22 Ar23 (j := (0 : Int32)) hin23 rfl (own_stoA Ar23 q23 O10 (Ins.self Ea22)) (g := (mkF m 117 #[.val (.ref a), .val (.long q), .second, .val (.int (2 : Int32)), .val (.int lw), .val (.int (0 : Int32)), .val (.int (32768 : Int32))] [(.ref b22), (.int (0 : Int32)), (.ref b10)])) rfl rfl (hb hby own_d_prog_35_method_1_code_117)
  have V_b10_24 : Arv Z h24 b10 k10 (.array .long) (2 : Int32) [(.ref b22), .null] .null := Arv.set Ar23 q23 S23 M23 H23 G23 rfl W24 0 rfl (Nat.le_of_ble_eq_true rfl)
  have F24_0 := F22_0.other W24 (Or.inl ne_a_b10)
  have F24_1 := F22_1.other W24 (Or.inl ne_a_b10)
  have F24_2 := F22_2.other W24 (Or.inl ne_a_b10)
  have F24_3 := F22_3.other W24 (Or.inl ne_a_b10)
  have X24_0 := X22_0.wr W24
  have X24_1 := Ea22.wr W24
  have S24_0 := S22_0.wr W24
  have ne_b10_b12 : b10 ≠ b12 := Nat.ne_of_lt (Nat.lt_of_lt_of_le (V11_0).lt (Nat.le_of_eq g12.symm))
  have V24_1 := V22_1.other W24 (Ne.symm ne_b10_b12)
  have ne_b10_b16 : b10 ≠ b16 := Nat.ne_of_lt (Nat.lt_of_lt_of_le (V13_0).lt (Nat.le_of_eq g16.symm))
  have V24_2 := V22_2.other W24 (Ne.symm ne_b10_b16)
  have ne_b10_b22 : b10 ≠ b22 := Nat.ne_of_lt (Nat.lt_of_lt_of_le (V17_0).lt (Nat.le_of_eq g22.symm))
  have V24_3 := V_b22.other W24 (Ne.symm ne_b10_b22)
  have z24 : n0 ≤ h24.size := by rw [W24.size]; exact z22
  have K24 : Keep h0 h24 [a] := K22.wr W24 (Or.inr sz_b10)
  have N24 := Fr.snoc X24 N21 g_b10
  have pre25 : ∀ tt_, Steps p.tables e below (T24.setTop (mkF m 118 #[.val (.ref a), .val (.long q), .second, .val (.int (2 : Int32)), .val (.int lw), .val (.int (0 : Int32)), .val (.int (32768 : Int32))] [])) tt_ → Steps p.tables e below (s₁.setTop (entryFrame m #[(.ref a), (.long q)] 7)) tt_ := fun tt_ kk_ => pre18 tt_ (by
    show Steps p.tables e below (T17.setTop (mkF m 78 #[.val (.ref a), .val (.long q), .second, .val (.int (2 : Int32)), .val (.int lw), .val (.int (0 : Int32)), .unset] [])) _
    refine XS.iload X17.here hx rfl (hb hby own_d_prog_35_method_1_code_78) rfl ?_
    refine XS.iloadN X17.here hx rfl (hb hby own_d_prog_35_method_1_code_80) rfl ?_
    refine XS.icmpNo X17.here hx rfl (hb hby own_d_prog_35_method_1_code_81) rfl (tlt ((by decide) : (0 : Int32) < (2 : Int32))).2.1 ?_
    refine XS.iload X17.here hx rfl (hb hby own_d_prog_35_method_1_code_84) rfl ?_
    refine XS.iloadN X17.here hx rfl (hb hby own_d_prog_35_method_1_code_86) rfl ?_
    refine XS.iconst X17.here hx rfl (hb hby own_d_prog_35_method_1_code_87) ?_
    show Steps p.tables e below (T17.setTop (mkF m 88 #[.val (.ref a), .val (.long q), .second, .val (.int (2 : Int32)), .val (.int lw), .val (.int (0 : Int32)), .unset] [(.int (1 : Int32)), (.int (2 : Int32)), (.int (0 : Int32))])) _
    refine XS.isub X17.here hx rfl (hb hby own_d_prog_35_method_1_code_88) rfl ?_
    show Steps p.tables e below (T17.setTop (mkF m 89 #[.val (.ref a), .val (.long q), .second, .val (.int (2 : Int32)), .val (.int lw), .val (.int (0 : Int32)), .unset] [(.int ((2 : Int32) - (1 : Int32))), (.int (0 : Int32))])) _
    rw [fold19]
    show Steps p.tables e below (T17.setTop (mkF m 89 #[.val (.ref a), .val (.long q), .second, .val (.int (2 : Int32)), .val (.int lw), .val (.int (0 : Int32)), .unset] [(.int (1 : Int32)), (.int (0 : Int32))])) _
    refine XS.icmpNo X17.here hx rfl (hb hby own_d_prog_35_method_1_code_89) rfl (tlt ((by decide) : (0 : Int32) < (1 : Int32))).2.1 ?_
    refine X17.ldcInt hx hown (mvT hZ (hw _ (List.mem_of_getElem? (i := 52) rfl))) (g := (mkF m 92 #[.val (.ref a), .val (.long q), .second, .val (.int (2 : Int32)), .val (.int lw), .val (.int (0 : Int32)), .unset] [])) rfl (hb hby own_d_prog_35_method_1_code_92) _ ?_
    refine XS.goto X17.here hx rfl (pc0 := 94) (pc' := 99) rfl (hb hby own_d_prog_35_method_1_code_94) (by decide) (by decide) ?_
    refine XS.istore X17.here hx rfl (hb hby own_d_prog_35_method_1_code_99) rfl (l' := #[.val (.ref a), .val (.long q), .second, .val (.int (2 : Int32)), .val (.int lw), .val (.int (0 : Int32)), .val (.int (32768 : Int32))]) rfl ?_
    refine XS.aloadN X17.here hx rfl (hb hby own_d_prog_35_method_1_code_101) rfl rfl ?_
    refine st20 _ ?_
    show Steps p.tables e below (T20.setTop (mkF m 105 #[.val (.ref a), .val (.long q), .second, .val (.int (2 : Int32)), .val (.int lw), .val (.int (0 : Int32)), .val (.int (32768 : Int32))] [(.ref b10)])) _
    refine XS.iload X20.here hx rfl (hb hby own_d_prog_35_method_1_code_105) rfl ?_
    refine XS.iload X20.here hx rfl (hb hby own_d_prog_35_method_1_code_107) rfl ?_
    refine XS.sipush X20.here hx rfl (hb hby own_d_prog_35_method_1_code_109) ?_
    show Steps p.tables e below (T20.setTop (mkF m 112 #[.val (.ref a), .val (.long q), .second, .val (.int (2 : Int32)), .val (.int lw), .val (.int (0 : Int32)), .val (.int (32768 : Int32))] [(.int (32764 : Int32)), (.int (32768 : Int32)), (.int (0 : Int32)), (.ref b10)])) _
    refine st21 _ ?_
    refine st22 _ ?_
    refine st24 _ ?_
    exact kk_)
  obtain ⟨T26, X26, e26, st26⟩ := getF X24 hx hZ hown (host := "") (Or.inl (hw _ (List.mem_of_getElem? (i := 20) rfl))) Via.refl e24 F24_2 (g := (mkF m 119 #[.val (.ref a), .val (.long q), .second, .val (.int (2 : Int32)), .val (.int lw), .val (.int (0 : Int32)), .val (.int (32768 : Int32))] [(.ref a)])) rfl rfl (hb hby own_d_prog_35_method_1_code_119)
  have fold27 : ((32768 : Int32) - (32764 : Int32)) = (4 : Int32) := by decide +kernel
  obtain ⟨_, _, ⟨T28, L28, k28, n28⟩, -, X28, ⟨Lc28, hQ28, l28, y28, z28⟩, st28⟩ := Jvm.LawKit.callS X26 hx (y := (⟨"java/lang/Math", "max", "(II)I"⟩ : MethodName)) hown (mvT hZ (hw _ (List.mem_of_getElem? (i := 30) rfl))) (mvT hZ (hw _ (List.mem_of_getElem? (i := 31) rfl))) (mvT hZ (hw _ (List.mem_of_getElem? (i := 26) rfl))) (mvT hZ (hw _ (List.mem_of_getElem? (i := 32) rfl))) (by decide) (backOf (W := 2) (rmMax l Z a0 hw [] (4 : Int32) (0 : Int32) (4 : Int32) h24 n0 z24 (by decide)) hZ (hw _ (List.mem_of_getElem? (i := 32) rfl)) (hw _ (List.mem_of_getElem? (i := 26) rfl)) (by decide) (by decide)) (g := (mkF m 131 #[.val (.ref a), .val (.long q), .second, .val (.int (2 : Int32)), .val (.int lw), .val (.int (0 : Int32)), .val (.int (32768 : Int32))] [(.int (0 : Int32)), (.int (4 : Int32)), (.int (0 : Int32)), (.ref b12)])) rfl (by rw [hml]; rfl) (argsL := [(.int (4 : Int32)), (.int (0 : Int32))]) (rest := [(.int (0 : Int32)), (.ref b12)]) (lenOf own_pd0 rfl) rfl (by show 2 * 0 + _ ≤ _; exact Nat.le_of_eq rfl) (hb hby own_d_prog_35_method_1_code_131) (fun _ _ => ⟨rfl, e26, (by decide : 4 + 0 ≤ _), (by decide : 32771 + 0 ≤ _)⟩)
  dsimp only [Pt.U, Pt.locs, Pt.cells, Pt.slots] at X28 l28 y28 z28 st28 hQ28
  replace l28 := l28.symm; subst l28 y28 z28
  obtain ⟨rfl, N28q, e28⟩ := hQ28
  have N28 := Fr.app N24 N28q
  obtain ⟨T29, h29, k29, X29, e29, E29, A29, Ea29, st29⟩ := newPE X28 hx hZ (hw _ (List.mem_of_getElem? (i := 28) rfl)) e28 (g := (mkF m 134 #[.val (.ref a), .val (.long q), .second, .val (.int (2 : Int32)), .val (.int lw), .val (.int (0 : Int32)), .val (.int (32768 : Int32))] [(.int (4 : Int32)), (.int (0 : Int32)), (.ref b12)])) rfl (hb hby own_d_prog_35_method_1_code_134) rfl (by decide) (cap := 4) (by decide) (by decide) (by decide) (by decide) (ad := "[J") (by decide +kernel)
  obtain ⟨b29, g29⟩ : ∃ z, z = h24.size := ⟨_, rfl⟩
  rw [← g29] at A29 st29 Ea29
  have g_b29 : n0 ≤ b29 := Nat.le_trans z24 (Nat.le_of_eq g29.symm)
  have sz_b29 : h0.size ≤ b29 := Nat.le_trans K24.1 (Nat.le_of_eq g29.symm)
  have F29_0 := F24_0.ext E29
  have F29_1 := F24_1.ext E29
  have F29_2 := F24_2.ext E29
  have F29_3 := F24_3.ext E29
  have X29_0 := X24_0.ext E29
  have X29_1 := X24_1.ext E29
  have S29_0 := S24_0.ext E29
  have V29_0 := V_b10_24.ext E29
  have V29_1 := V24_1.ext E29
  have V29_2 := V24_2.ext E29
  have V29_3 := V24_3.ext E29
  have z29 : n0 ≤ h29.size := Nat.le_trans z24 E29.1
  have K29 : Keep h0 h29 [a] := K24.ext E29
  have V_b29 : Arv Z h29 b29 k29 .long (4 : Int32) [] (.long (0 : Int64)) := (Arv.new A29 (by decide)).pad (pad_rep [] (.long (0 : Int64)) 0)
  obtain ⟨cl30, Ar30, q30, S30, M30, H30, G30⟩ := id V29_1
  have hin30 : ¬ ((0 : Int32) < 0 ∨ cl30.slots.size ≤ ((0 : Int32)).toNatClampNeg) := inb_of S30 ⟨by decide, by decide⟩
  obtain ⟨T31, h31, X31, e31, W31, st31⟩ := stR X29 hx hZ e29 Ar30 (j := (0 : Int32)) hin30 rfl (own_stoA Ar30 q30 O12 (Ins.self Ea29)) (g := (mkF m 136 #[.val (.ref a), .val (.long q), .second, .val (.int (2 : Int32)), .val (.int lw), .val (.int (0 : Int32)), .val (.int (32768 : Int32))] [(.ref b29), (.int (0 : Int32)), (.ref b12)])) rfl rfl (hb hby own_d_prog_35_method_1_code_136)
  have V_b12_31 : Arv Z h31 b12 k12 (.array .long) (2 : Int32) [(.ref b29), .null] .null := Arv.set Ar30 q30 S30 M30 H30 G30 rfl W31 0 rfl (Nat.le_of_ble_eq_true rfl)
  have F31_0 := F29_0.other W31 (Or.inl ne_a_b12)
  have F31_1 := F29_1.other W31 (Or.inl ne_a_b12)
  have F31_2 := F29_2.other W31 (Or.inl ne_a_b12)
  have F31_3 := F29_3.other W31 (Or.inl ne_a_b12)
  have X31_0 := X29_0.wr W31
  have X31_1 := X29_1.wr W31
  have X31_2 := Ea29.wr W31
  have S31_0 := S29_0.wr W31
  have V31_0 := V29_0.other W31 ne_b10_b12
  have ne_b12_b16 : b12 ≠ b16 := Nat.ne_of_lt (Nat.lt_of_lt_of_le (V13_1).lt (Nat.le_of_eq g16.symm))
  have V31_2 := V29_2.other W31 (Ne.symm ne_b12_b16)
  have ne_b12_b22 : b12 ≠ b22 := Nat.ne_of_lt (Nat.lt_of_lt_of_le (V17_1).lt (Nat.le_of_eq g22.symm))
  have V31_3 := V29_3.other W31 (Ne.symm ne_b12_b22)
  have ne_b12_b29 : b12 ≠ b29 := Nat.ne_of_lt (Nat.lt_of_lt_of_le (V24_1).lt (Nat.le_of_eq g29.symm))
  have V31_4 := V_b29.other W31 (Ne.symm ne_b12_b29)
  have z31 : n0 ≤ h31.size := by rw [W31.size]; exact z29
  have K31 : Keep h0 h31 [a] := K29.wr W31 (Or.inr sz_b12)
  have N31 := Fr.snoc X31 N28 g_b12
  have pre32 : ∀ tt_, Steps p.tables e below (T31.setTop (mkF m 137 #[.val (.ref a), .val (.long q), .second, .val (.int (2 : Int32)), .val (.int lw), .val (.int (0 : Int32)), .val (.int (32768 : Int32))] [])) tt_ → Steps p.tables e below (s₁.setTop (entryFrame m #[(.ref a), (.long q)] 7)) tt_ := fun tt_ kk_ => pre25 tt_ (by
    show Steps p.tables e below (T24.setTop (mkF m 118 #[.val (.ref a), .val (.long q), .second, .val (.int (2 : Int32)), .val (.int lw), .val (.int (0 : Int32)), .val (.int (32768 : Int32))] [])) _
    refine XS.aloadN X24.here hx rfl (hb hby own_d_prog_35_method_1_code_118) rfl rfl ?_
    refine st26 _ ?_
    refine XS.iload X26.here hx rfl (hb hby own_d_prog_35_method_1_code_122) rfl ?_
    refine XS.iload X26.here hx rfl (hb hby own_d_prog_35_method_1_code_124) rfl ?_
    show Steps p.tables e below (T26.setTop (mkF m 126 #[.val (.ref a), .val (.long q), .second, .val (.int (2 : Int32)), .val (.int lw), .val (.int (0 : Int32)), .val (.int (32768 : Int32))] [(.int (32768 : Int32)), (.int (0 : Int32)), (.ref b12)])) _
    refine XS.sipush X26.here hx rfl (hb hby own_d_prog_35_method_1_code_126) ?_
    refine XS.isub X26.here hx rfl (hb hby own_d_prog_35_method_1_code_129) rfl ?_
    show Steps p.tables e below (T26.setTop (mkF m 130 #[.val (.ref a), .val (.long q), .second, .val (.int (2 : Int32)), .val (.int lw), .val (.int (0 : Int32)), .val (.int (32768 : Int32))] [(.int ((32768 : Int32) - (32764 : Int32))), (.int (0 : Int32)), (.ref b12)])) _
    rw [fold27]
    show Steps p.tables e below (T26.setTop (mkF m 130 #[.val (.ref a), .val (.long q), .second, .val (.int (2 : Int32)), .val (.int lw), .val (.int (0 : Int32)), .val (.int (32768 : Int32))] [(.int (4 : Int32)), (.int (0 : Int32)), (.ref b12)])) _
    refine XS.iconst X26.here hx rfl (hb hby own_d_prog_35_method_1_code_130) ?_
    show Steps p.tables e below (T26.setTop (mkF m 131 #[.val (.ref a), .val (.long q), .second, .val (.int (2 : Int32)), .val (.int lw), .val (.int (0 : Int32)), .val (.int (32768 : Int32))] [(.int (0 : Int32)), (.int (4 : Int32)), (.int (0 : Int32)), (.ref b12)])) _
    refine st28 _ ?_
    refine st29 _ ?_
    refine st31 _ ?_
    exact kk_)
  obtain ⟨T33, X33, e33, st33⟩ := getF X31 hx hZ hown (host := "") (Or.inl (hw _ (List.mem_of_getElem? (i := 22) rfl))) Via.refl e31 F31_3 (g := (mkF m 138 #[.val (.ref a), .val (.long q), .second, .val (.int (2 : Int32)), .val (.int lw), .val (.int (0 : Int32)), .val (.int (32768 : Int32))] [(.ref a)])) rfl rfl (hb hby own_d_prog_35_method_1_code_138)
  have fold34 : ((2 : Int32) * (0 : Int32)) = (0 : Int32) := by decide +kernel
  obtain ⟨T35, X35, e35, st35⟩ := getF X33 hx hZ hown (host := "") (Or.inl (hw _ (List.mem_of_getElem? (i := 18) rfl))) Via.refl e33 F31_1 (g := (mkF m 146 #[.val (.ref a), .val (.long q), .second, .val (.int (2 : Int32)), .val (.int lw), .val (.int (0 : Int32)), .val (.int (32768 : Int32))] [(.ref a), (.int (0 : Int32)), (.ref b16)])) rfl rfl (hb hby own_d_prog_35_method_1_code_146)
  obtain ⟨cl36, Ar36, q36, S36, M36, H36, G36⟩ := id V31_0
  have hin36 : ¬ ((0 : Int32) < 0 ∨ cl36.slots.size ≤ ((0 : Int32)).toNatClampNeg) := inb_of S36 ⟨by decide, by decide⟩
  have hat36 : cl36.slots[((0 : Int32)).toNatClampNeg]? = some (.ref b22) := Has.at H36 hin36 rfl
  obtain ⟨cl37, Ar37, q37, S37, M37, H37, G37⟩ := id V31_2
  have hin37 : ¬ ((0 : Int32) < 0 ∨ cl37.slots.size ≤ ((0 : Int32)).toNatClampNeg) := inb_of S37 ⟨by decide, by decide⟩
  obtain ⟨T38, h38, X38, e38, W38, st38⟩ := stR X35 hx hZ e35 Ar37 (j := (0 : Int32)) hin37 rfl (own_stoA Ar37 q37 O16 (Ins.self X31_1)) (g := (mkF m 152 #[.val (.ref a), .val (.long q), .second, .val (.int (2 : Int32)), .val (.int lw), .val (.int (0 : Int32)), .val (.int (32768 : Int32))] [(.ref b22), (.int (0 : Int32)), (.ref b16)])) rfl rfl (hb hby own_d_prog_35_method_1_code_152)
  have V_b16_38 : Arv Z h38 b16 k16 (.array .long) (3 : Int32) [(.ref b22), .null, .null] .null := Arv.set Ar37 q37 S37 M37 H37 G37 rfl W38 0 rfl (Nat.le_of_ble_eq_true rfl)
  have F38_0 := F31_0.other W38 (Or.inl ne_a_b16)
  have F38_1 := F31_1.other W38 (Or.inl ne_a_b16)
  have F38_2 := F31_2.other W38 (Or.inl ne_a_b16)
  have F38_3 := F31_3.other W38 (Or.inl ne_a_b16)
  have X38_0 := X31_0.wr W38
  have X38_1 := X31_1.wr W38
  have X38_2 := X31_2.wr W38
  have S38_0 := S31_0.wr W38
  have V38_0 := V31_0.other W38 ne_b10_b16
  have V38_1 := V_b12_31.other W38 ne_b12_b16
  have ne_b16_b22 : b16 ≠ b22 := Nat.ne_of_lt (Nat.lt_of_lt_of_le (V17_2).lt (Nat.le_of_eq g22.symm))
  have V38_3 := V31_3.other W38 (Ne.symm ne_b16_b22)
  have ne_b16_b29 : b16 ≠ b29 := Nat.ne_of_lt (Nat.lt_of_lt_of_le (V24_2).lt (Nat.le_of_eq g29.symm))
  have V38_4 := V31_4.other W38 (Ne.symm ne_b16_b29)
  have z38 : n0 ≤ h38.size := by rw [W38.size]; exact z31
  have K38 : Keep h0 h38 [a] := K31.wr W38 (Or.inr sz_b16)
  have N38 := Fr.snoc X38 N31 g_b16
  have pre39 : ∀ tt_, Steps p.tables e below (T38.setTop (mkF m 153 #[.val (.ref a), .val (.long q), .second, .val (.int (2 : Int32)), .val (.int lw), .val (.int (0 : Int32)), .val (.int (32768 : Int32))] [])) tt_ → Steps p.tables e below (s₁.setTop (entryFrame m #[(.ref a), (.long q)] 7)) tt_ := fun tt_ kk_ => pre32 tt_ (by
    show Steps p.tables e below (T31.setTop (mkF m 137 #[.val (.ref a), .val (.long q), .second, .val (.int (2 : Int32)), .val (.int lw), .val (.int (0 : Int32)), .val (.int (32768 : Int32))] [])) _
    refine XS.aloadN X31.here hx rfl (hb hby own_d_prog_35_method_1_code_137) rfl rfl ?_
    refine st33 _ ?_
    refine XS.iconst X33.here hx rfl (hb hby own_d_prog_35_method_1_code_141) ?_
    refine XS.iload X33.here hx rfl (hb hby own_d_prog_35_method_1_code_142) rfl ?_
    show Steps p.tables e below (T33.setTop (mkF m 144 #[.val (.ref a), .val (.long q), .second, .val (.int (2 : Int32)), .val (.int lw), .val (.int (0 : Int32)), .val (.int (32768 : Int32))] [(.int (0 : Int32)), (.int (2 : Int32)), (.ref b16)])) _
    refine XS.imul X33.here hx rfl (hb hby own_d_prog_35_method_1_code_144) rfl ?_
    show Steps p.tables e below (T33.setTop (mkF m 145 #[.val (.ref a), .val (.long q), .second, .val (.int (2 : Int32)), .val (.int lw), .val (.int (0 : Int32)), .val (.int (32768 : Int32))] [(.int ((2 : Int32) * (0 : Int32))), (.ref b16)])) _
    rw [fold34]
    show Steps p.tables e below (T33.setTop (mkF m 145 #[.val (.ref a), .val (.long q), .second, .val (.int (2 : Int32)), .val (.int lw), .val (.int (0 : Int32)), .val (.int (32768 : Int32))] [(.int (0 : Int32)), (.ref b16)])) _
    refine XS.aloadN X33.here hx rfl (hb hby own_d_prog_35_method_1_code_145) rfl rfl ?_
    refine st35 _ ?_
    refine XS.iload X35.here hx rfl (hb hby own_d_prog_35_method_1_code_149) rfl ?_
    refine X35.aaload hx (j := (0 : Int32)) (v := (.ref b22)) (by rw [e35]; exact Ar36.1) (State.isArrayOf_alike hZ.alike Ar36.2.1) rfl Ar36.2.2 hin36 hat36 (g := (mkF m 151 #[.val (.ref a), .val (.long q), .second, .val (.int (2 : Int32)), .val (.int lw), .val (.int (0 : Int32)), .val (.int (32768 : Int32))] [(.int (0 : Int32)), (.ref b10), (.int (0 : Int32)), (.ref b16)])) rfl rfl (hb hby own_d_prog_35_method_1_code_151) _ ?_
    refine st38 _ ?_
    exact kk_)
  obtain ⟨T40, X40, e40, st40⟩ := getF X38 hx hZ hown (host := "") (Or.inl (hw _ (List.mem_of_getElem? (i := 22) rfl))) Via.refl e38 F38_3 (g := (mkF m 162 #[.val (.ref a), .val (.long q), .second, .val (.int (2 : Int32)), .val (.int lw), .val (.int (0 : Int32)), .val (.int (32768 : Int32))] [(.ref a)])) rfl rfl (hb hby own_d_prog_35_method_1_code_162)
  have fold41 : ((2 : Int32) * (0 : Int32)) = (0 : Int32) := by decide +kernel
  have fold42 : ((0 : Int32) + (1 : Int32)) = (1 : Int32) := by decide +kernel
  obtain ⟨T43, X43, e43, st43⟩ := getF X40 hx hZ hown (host := "") (Or.inl (hw _ (List.mem_of_getElem? (i := 20) rfl))) Via.refl e40 F38_2 (g := (mkF m 172 #[.val (.ref a), .val (.long q), .second, .val (.int (2 : Int32)), .val (.int lw), .val (.int (0 : Int32)), .val (.int (32768 : Int32))] [(.ref a), (.int (1 : Int32)), (.ref b16)])) rfl rfl (hb hby own_d_prog_35_method_1_code_172)
  obtain ⟨cl44, Ar44, q44, S44, M44, H44, G44⟩ := id V38_1
  have hin44 : ¬ ((0 : Int32) < 0 ∨ cl44.slots.size ≤ ((0 : Int32)).toNatClampNeg) := inb_of S44 ⟨by decide, by decide⟩
  have hat44 : cl44.slots[((0 : Int32)).toNatClampNeg]? = some (.ref b29) := Has.at H44 hin44 rfl
  obtain ⟨cl45, Ar45, q45, S45, M45, H45, G45⟩ := id V_b16_38
  have hin45 : ¬ ((1 : Int32) < 0 ∨ cl45.slots.size ≤ ((1 : Int32)).toNatClampNeg) := inb_of S45 ⟨by decide, by decide⟩
  obtain ⟨T46, h46, X46, e46, W46, st46⟩ := stR X43 hx hZ e43 Ar45 (j := (1 : Int32)) hin45 rfl (own_stoA Ar45 q45 O16 (Ins.self X38_2)) (g := (mkF m 178 #[.val (.ref a), .val (.long q), .second, .val (.int (2 : Int32)), .val (.int lw), .val (.int (0 : Int32)), .val (.int (32768 : Int32))] [(.ref b29), (.int (1 : Int32)), (.ref b16)])) rfl rfl (hb hby own_d_prog_35_method_1_code_178)
  have V_b16_46 : Arv Z h46 b16 k16 (.array .long) (3 : Int32) [(.ref b22), (.ref b29), .null] .null := Arv.set Ar45 q45 S45 M45 H45 G45 rfl W46 1 rfl (Nat.le_of_ble_eq_true rfl)
  have F46_0 := F38_0.other W46 (Or.inl ne_a_b16)
  have F46_1 := F38_1.other W46 (Or.inl ne_a_b16)
  have F46_2 := F38_2.other W46 (Or.inl ne_a_b16)
  have F46_3 := F38_3.other W46 (Or.inl ne_a_b16)
  have X46_0 := X38_0.wr W46
  have X46_1 := X38_1.wr W46
  have X46_2 := X38_2.wr W46
  have S46_0 := S38_0.wr W46
  have V46_0 := V38_0.other W46 ne_b10_b16
  have V46_1 := V38_1.other W46 ne_b12_b16
  have V46_3 := V38_3.other W46 (Ne.symm ne_b16_b22)
  have V46_4 := V38_4.other W46 (Ne.symm ne_b16_b29)
  have z46 : n0 ≤ h46.size := by rw [W46.size]; exact z38
  have K46 : Keep h0 h46 [a] := K38.wr W46 (Or.inr sz_b16)
  have N46 := Fr.snoc X46 N38 g_b16
  have fold47 : ((0 : Int32) + (1 : Int32)) = (1 : Int32) := by decide +kernel
  have pre48 : ∀ tt_, Steps p.tables e below (T46.setTop (mkF m 78 #[.val (.ref a), .val (.long q), .second, .val (.int (2 : Int32)), .val (.int lw), .val (.int (1 : Int32)), .val (.int (32768 : Int32))] [])) tt_ → Steps p.tables e below (s₁.setTop (entryFrame m #[(.ref a), (.long q)] 7)) tt_ := fun tt_ kk_ => pre39 tt_ (by
    show Steps p.tables e below (T38.setTop (mkF m 153 #[.val (.ref a), .val (.long q), .second, .val (.int (2 : Int32)), .val (.int lw), .val (.int (0 : Int32)), .val (.int (32768 : Int32))] [])) _
    refine XS.iload X38.here hx rfl (hb hby own_d_prog_35_method_1_code_153) rfl ?_
    refine XS.sipush X38.here hx rfl (hb hby own_d_prog_35_method_1_code_155) ?_
    show Steps p.tables e below (T38.setTop (mkF m 158 #[.val (.ref a), .val (.long q), .second, .val (.int (2 : Int32)), .val (.int lw), .val (.int (0 : Int32)), .val (.int (32768 : Int32))] [(.int (32764 : Int32)), (.int (32768 : Int32))])) _
    refine XS.icmpNo X38.here hx rfl (hb hby own_d_prog_35_method_1_code_158) rfl (tlt ((by decide) : (32764 : Int32) < (32768 : Int32))).2.2.2 ?_
    refine XS.aloadN X38.here hx rfl (hb hby own_d_prog_35_method_1_code_161) rfl rfl ?_
    refine st40 _ ?_
    refine XS.iconst X40.here hx rfl (hb hby own_d_prog_35_method_1_code_165) ?_
    refine XS.iload X40.here hx rfl (hb hby own_d_prog_35_method_1_code_166) rfl ?_
    refine XS.imul X40.here hx rfl (hb hby own_d_prog_35_method_1_code_168) rfl ?_
    show Steps p.tables e below (T40.setTop (mkF m 169 #[.val (.ref a), .val (.long q), .second, .val (.int (2 : Int32)), .val (.int lw), .val (.int (0 : Int32)), .val (.int (32768 : Int32))] [(.int ((2 : Int32) * (0 : Int32))), (.ref b16)])) _
    rw [fold41]
    show Steps p.tables e below (T40.setTop (mkF m 169 #[.val (.ref a), .val (.long q), .second, .val (.int (2 : Int32)), .val (.int lw), .val (.int (0 : Int32)), .val (.int (32768 : Int32))] [(.int (0 : Int32)), (.ref b16)])) _
    refine XS.iconst X40.here hx rfl (hb hby own_d_prog_35_method_1_code_169) ?_
    show Steps p.tables e below (T40.setTop (mkF m 170 #[.val (.ref a), .val (.long q), .second, .val (.int (2 : Int32)), .val (.int lw), .val (.int (0 : Int32)), .val (.int (32768 : Int32))] [(.int (1 : Int32)), (.int (0 : Int32)), (.ref b16)])) _
    refine XS.iadd X40.here hx rfl (hb hby own_d_prog_35_method_1_code_170) rfl ?_
    show Steps p.tables e below (T40.setTop (mkF m 171 #[.val (.ref a), .val (.long q), .second, .val (.int (2 : Int32)), .val (.int lw), .val (.int (0 : Int32)), .val (.int (32768 : Int32))] [(.int ((0 : Int32) + (1 : Int32))), (.ref b16)])) _
    rw [fold42]
    show Steps p.tables e below (T40.setTop (mkF m 171 #[.val (.ref a), .val (.long q), .second, .val (.int (2 : Int32)), .val (.int lw), .val (.int (0 : Int32)), .val (.int (32768 : Int32))] [(.int (1 : Int32)), (.ref b16)])) _
    refine XS.aloadN X40.here hx rfl (hb hby own_d_prog_35_method_1_code_171) rfl rfl ?_
    refine st43 _ ?_
    refine XS.iload X43.here hx rfl (hb hby own_d_prog_35_method_1_code_175) rfl ?_
    refine X43.aaload hx (j := (0 : Int32)) (v := (.ref b29)) (by rw [e43]; exact Ar44.1) (State.isArrayOf_alike hZ.alike Ar44.2.1) rfl Ar44.2.2 hin44 hat44 (g := (mkF m 177 #[.val (.ref a), .val (.long q), .second, .val (.int (2 : Int32)), .val (.int lw), .val (.int (0 : Int32)), .val (.int (32768 : Int32))] [(.int (0 : Int32)), (.ref b12), (.int (1 : Int32)), (.ref b16)])) rfl rfl (hb hby own_d_prog_35_method_1_code_177) _ ?_
    refine st46 _ ?_
    refine XS.iinc X46.here hx rfl (hb hby own_d_prog_35_method_1_code_179) rfl (l' := #[.val (.ref a), .val (.long q), .second, .val (.int (2 : Int32)), .val (.int lw), .val (.int ((0 : Int32) + (1 : Int32))), .val (.int (32768 : Int32))]) rfl ?_
    show Steps p.tables e below (T46.setTop (mkF m 182 #[.val (.ref a), .val (.long q), .second, .val (.int (2 : Int32)), .val (.int lw), .val (.int ((0 : Int32) + (1 : Int32))), .val (.int (32768 : Int32))] [])) _
    rw [fold47]
    show Steps p.tables e below (T46.setTop (mkF m 182 #[.val (.ref a), .val (.long q), .second, .val (.int (2 : Int32)), .val (.int lw), .val (.int (1 : Int32)), .val (.int (32768 : Int32))] [])) _
    refine XS.goto X46.here hx rfl (pc0 := 182) (pc' := 78) rfl (hb hby own_d_prog_35_method_1_code_182) (by decide) (by decide) ?_
    exact kk_)
  have fold49 : ((2 : Int32) - (1 : Int32)) = (1 : Int32) := by decide +kernel
  obtain ⟨T50, X50, e50, st50⟩ := getF X46 hx hZ hown (host := "") (Or.inl (hw _ (List.mem_of_getElem? (i := 18) rfl))) Via.refl e46 F46_1 (g := (mkF m 102 #[.val (.ref a), .val (.long q), .second, .val (.int (2 : Int32)), .val (.int lw), .val (.int (1 : Int32)), .val (.int lw)] [(.ref a)])) rfl rfl (hb hby own_d_prog_35_method_1_code_102)
  obtain ⟨_, _, ⟨T51, L51, k51, n51⟩, -, X51, ⟨Lc51, hQ51, l51, y51, z51⟩, st51⟩ := Jvm.LawKit.callS X50 hx (y := (⟨"java/lang/Math", "min", "(II)I"⟩ : MethodName)) hown (mvT hZ (hw _ (List.mem_of_getElem? (i := 24) rfl))) (mvT hZ (hw _ (List.mem_of_getElem? (i := 25) rfl))) (mvT hZ (hw _ (List.mem_of_getElem? (i := 26) rfl))) (mvT hZ (hw _ (List.mem_of_getElem? (i := 27) rfl))) (by decide) (backOf (W := 2) (rmMin l Z a0 hw [] lw (32764 : Int32) (own_min lw (32764 : Int32)) h46 n0 z46 rfl) hZ (hw _ (List.mem_of_getElem? (i := 27) rfl)) (hw _ (List.mem_of_getElem? (i := 26) rfl)) (by decide) (by decide)) (g := (mkF m 112 #[.val (.ref a), .val (.long q), .second, .val (.int (2 : Int32)), .val (.int lw), .val (.int (1 : Int32)), .val (.int lw)] [(.int (32764 : Int32)), (.int lw), (.int (1 : Int32)), (.ref b10)])) rfl (by rw [hml]; rfl) (argsL := [(.int lw), (.int (32764 : Int32))]) (rest := [(.int (1 : Int32)), (.ref b10)]) (lenOf own_pd0 rfl) rfl (by show 2 * 0 + _ ≤ _; exact Nat.le_of_eq rfl) (hb hby own_d_prog_35_method_1_code_112) (fun _ _ => ⟨rfl, e50, (by decide : 5 + 0 ≤ _), (by decide : 32775 + 0 ≤ _)⟩)
  dsimp only [Pt.U, Pt.locs, Pt.cells, Pt.slots] at X51 l51 y51 z51 st51 hQ51
  replace l51 := l51.symm; subst l51 y51 z51
  obtain ⟨rfl, N51q, e51⟩ := hQ51
  have N51 := Fr.app N46 N51q
  obtain ⟨T52, h52, k52, X52, e52, E52, A52, Ea52, st52⟩ := newPE X51 hx hZ (hw _ (List.mem_of_getElem? (i := 28) rfl)) e51 (g := (mkF m 115 #[.val (.ref a), .val (.long q), .second, .val (.int (2 : Int32)), .val (.int lw), .val (.int (1 : Int32)), .val (.int lw)] [(.int (own_min lw (32764 : Int32))), (.int (1 : Int32)), (.ref b10)])) rfl (hb hby own_d_prog_35_method_1_code_115) rfl (own_hneg hlb) (cap := 32764) (own_hcap hlb) (by decide) (by decide) (by decide) (ad := "[J") (by decide +kernel)
  obtain ⟨b52, g52⟩ : ∃ z, z = h46.size := ⟨_, rfl⟩
  rw [← g52] at A52 st52 Ea52
  have g_b52 : n0 ≤ b52 := Nat.le_trans z46 (Nat.le_of_eq g52.symm)
  have sz_b52 : h0.size ≤ b52 := Nat.le_trans K46.1 (Nat.le_of_eq g52.symm)
  have F52_0 := F46_1.ext E52
  have F52_1 := F46_2.ext E52
  have F52_2 := F46_3.ext E52
  have X52_0 := X46_0.ext E52
  have S52_0 := S46_0.ext E52
  have V52_0 := V46_0.ext E52
  have V52_1 := V46_1.ext E52
  have V52_2 := V_b16_46.ext E52
  have V52_3 := V46_3.ext E52
  have V52_4 := V46_4.ext E52
  have z52 : n0 ≤ h52.size := Nat.le_trans z46 E52.1
  have K52 : Keep h0 h52 [a] := K46.ext E52
  have V_b52 : Arv Z h52 b52 k52 .long (own_min lw (32764 : Int32)) [] (.long (0 : Int64)) := (Arv.new A52 (own_hneg hlb)).pad (pad_rep [] (.long (0 : Int64)) 0)
  obtain ⟨cl53, Ar53, q53, S53, M53, H53, G53⟩ := id V52_0
  have hin53 : ¬ ((1 : Int32) < 0 ∨ cl53.slots.size ≤ ((1 : Int32)).toNatClampNeg) := inb_of S53 ⟨by decide, by decide⟩
  obtain ⟨T54, h54, X54, e54, W54, st54⟩ := stR X52 hx hZ e52 Ar53 (j := (1 : Int32)) hin53 rfl (own_stoA Ar53 q53 O10 (Ins.self Ea52)) (g := (mkF m 117 #[.val (.ref a), .val (.long q), .second, .val (.int (2 : Int32)), .val (.int lw), .val (.int (1 : Int32)), .val (.int lw)] [(.ref b52), (.int (1 : Int32)), (.ref b10)])) rfl rfl (hb hby own_d_prog_35_method_1_code_117)
  have V_b10_54 : Arv Z h54 b10 k10 (.array .long) (2 : Int32) [(.ref b22), (.ref b52)] .null := Arv.set Ar53 q53 S53 M53 H53 G53 rfl W54 1 rfl (Nat.le_of_ble_eq_true rfl)
  have F54_0 := F52_0.other W54 (Or.inl ne_a_b10)
  have F54_1 := F52_1.other W54 (Or.inl ne_a_b10)
  have F54_2 := F52_2.other W54 (Or.inl ne_a_b10)
  have X54_0 := X52_0.wr W54
  have X54_1 := Ea52.wr W54
  have S54_0 := S52_0.wr W54
  have V54_1 := V52_1.other W54 (Ne.symm ne_b10_b12)
  have V54_2 := V52_2.other W54 (Ne.symm ne_b10_b16)
  have V54_3 := V52_3.other W54 (Ne.symm ne_b10_b22)
  have ne_b10_b29 : b10 ≠ b29 := Nat.ne_of_lt (Nat.lt_of_lt_of_le (V_b10_24).lt (Nat.le_of_eq g29.symm))
  have V54_4 := V52_4.other W54 (Ne.symm ne_b10_b29)
  have ne_b10_b52 : b10 ≠ b52 := Nat.ne_of_lt (Nat.lt_of_lt_of_le (V46_0).lt (Nat.le_of_eq g52.symm))
  have V54_5 := V_b52.other W54 (Ne.symm ne_b10_b52)
  have z54 : n0 ≤ h54.size := by rw [W54.size]; exact z52
  have K54 : Keep h0 h54 [a] := K52.wr W54 (Or.inr sz_b10)
  have N54 := Fr.snoc X54 N51 g_b10
  have pre55 : ∀ tt_, Steps p.tables e below (T54.setTop (mkF m 118 #[.val (.ref a), .val (.long q), .second, .val (.int (2 : Int32)), .val (.int lw), .val (.int (1 : Int32)), .val (.int lw)] [])) tt_ → Steps p.tables e below (s₁.setTop (entryFrame m #[(.ref a), (.long q)] 7)) tt_ := fun tt_ kk_ => pre48 tt_ (by
    show Steps p.tables e below (T46.setTop (mkF m 78 #[.val (.ref a), .val (.long q), .second, .val (.int (2 : Int32)), .val (.int lw), .val (.int (1 : Int32)), .val (.int (32768 : Int32))] [])) _
    refine XS.iload X46.here hx rfl (hb hby own_d_prog_35_method_1_code_78) rfl ?_
    refine XS.iloadN X46.here hx rfl (hb hby own_d_prog_35_method_1_code_80) rfl ?_
    refine XS.icmpNo X46.here hx rfl (hb hby own_d_prog_35_method_1_code_81) rfl (tlt ((by decide) : (1 : Int32) < (2 : Int32))).2.1 ?_
    refine XS.iload X46.here hx rfl (hb hby own_d_prog_35_method_1_code_84) rfl ?_
    refine XS.iloadN X46.here hx rfl (hb hby own_d_prog_35_method_1_code_86) rfl ?_
    refine XS.iconst X46.here hx rfl (hb hby own_d_prog_35_method_1_code_87) ?_
    show Steps p.tables e below (T46.setTop (mkF m 88 #[.val (.ref a), .val (.long q), .second, .val (.int (2 : Int32)), .val (.int lw), .val (.int (1 : Int32)), .val (.int (32768 : Int32))] [(.int (1 : Int32)), (.int (2 : Int32)), (.int (1 : Int32))])) _
    refine XS.isub X46.here hx rfl (hb hby own_d_prog_35_method_1_code_88) rfl ?_
    show Steps p.tables e below (T46.setTop (mkF m 89 #[.val (.ref a), .val (.long q), .second, .val (.int (2 : Int32)), .val (.int lw), .val (.int (1 : Int32)), .val (.int (32768 : Int32))] [(.int ((2 : Int32) - (1 : Int32))), (.int (1 : Int32))])) _
    rw [fold49]
    show Steps p.tables e below (T46.setTop (mkF m 89 #[.val (.ref a), .val (.long q), .second, .val (.int (2 : Int32)), .val (.int lw), .val (.int (1 : Int32)), .val (.int (32768 : Int32))] [(.int (1 : Int32)), (.int (1 : Int32))])) _
    refine XS.icmpYes X46.here hx rfl (pc0 := 89) (pc' := 97) rfl (hb hby own_d_prog_35_method_1_code_89) rfl (flt ((by decide) : ¬ ((1 : Int32) < (1 : Int32)))).2.1 (by decide) (by decide) ?_
    refine XS.iload X46.here hx rfl (hb hby own_d_prog_35_method_1_code_97) rfl ?_
    refine XS.istore X46.here hx rfl (hb hby own_d_prog_35_method_1_code_99) rfl (l' := #[.val (.ref a), .val (.long q), .second, .val (.int (2 : Int32)), .val (.int lw), .val (.int (1 : Int32)), .val (.int lw)]) rfl ?_
    refine XS.aloadN X46.here hx rfl (hb hby own_d_prog_35_method_1_code_101) rfl rfl ?_
    refine st50 _ ?_
    refine XS.iload X50.here hx rfl (hb hby own_d_prog_35_method_1_code_105) rfl ?_
    show Steps p.tables e below (T50.setTop (mkF m 107 #[.val (.ref a), .val (.long q), .second, .val (.int (2 : Int32)), .val (.int lw), .val (.int (1 : Int32)), .val (.int lw)] [(.int (1 : Int32)), (.ref b10)])) _
    refine XS.iload X50.here hx rfl (hb hby own_d_prog_35_method_1_code_107) rfl ?_
    refine XS.sipush X50.here hx rfl (hb hby own_d_prog_35_method_1_code_109) ?_
    show Steps p.tables e below (T50.setTop (mkF m 112 #[.val (.ref a), .val (.long q), .second, .val (.int (2 : Int32)), .val (.int lw), .val (.int (1 : Int32)), .val (.int lw)] [(.int (32764 : Int32)), (.int lw), (.int (1 : Int32)), (.ref b10)])) _
    refine st51 _ ?_
    refine st52 _ ?_
    refine st54 _ ?_
    exact kk_)
  obtain ⟨T56, X56, e56, st56⟩ := getF X54 hx hZ hown (host := "") (Or.inl (hw _ (List.mem_of_getElem? (i := 20) rfl))) Via.refl e54 F54_1 (g := (mkF m 119 #[.val (.ref a), .val (.long q), .second, .val (.int (2 : Int32)), .val (.int lw), .val (.int (1 : Int32)), .val (.int lw)] [(.ref a)])) rfl rfl (hb hby own_d_prog_35_method_1_code_119)
  obtain ⟨_, _, ⟨T57, L57, k57, n57⟩, -, X57, ⟨Lc57, hQ57, l57, y57, z57⟩, st57⟩ := Jvm.LawKit.callS X56 hx (y := (⟨"java/lang/Math", "max", "(II)I"⟩ : MethodName)) hown (mvT hZ (hw _ (List.mem_of_getElem? (i := 30) rfl))) (mvT hZ (hw _ (List.mem_of_getElem? (i := 31) rfl))) (mvT hZ (hw _ (List.mem_of_getElem? (i := 26) rfl))) (mvT hZ (hw _ (List.mem_of_getElem? (i := 32) rfl))) (by decide) (backOf (W := 2) (rmMax l Z a0 hw [] (lw - (32764 : Int32)) (0 : Int32) (own_max (lw - (32764 : Int32)) (0 : Int32)) h54 n0 z54 rfl) hZ (hw _ (List.mem_of_getElem? (i := 32) rfl)) (hw _ (List.mem_of_getElem? (i := 26) rfl)) (by decide) (by decide)) (g := (mkF m 131 #[.val (.ref a), .val (.long q), .second, .val (.int (2 : Int32)), .val (.int lw), .val (.int (1 : Int32)), .val (.int lw)] [(.int (0 : Int32)), (.int (lw - (32764 : Int32))), (.int (1 : Int32)), (.ref b12)])) rfl (by rw [hml]; rfl) (argsL := [(.int (lw - (32764 : Int32))), (.int (0 : Int32))]) (rest := [(.int (1 : Int32)), (.ref b12)]) (lenOf own_pd0 rfl) rfl (by show 2 * 0 + _ ≤ _; exact Nat.le_of_eq rfl) (hb hby own_d_prog_35_method_1_code_131) (fun _ _ => ⟨rfl, e56, (by decide : 6 + 0 ≤ _), (by decide : 65539 + 0 ≤ _)⟩)
  dsimp only [Pt.U, Pt.locs, Pt.cells, Pt.slots] at X57 l57 y57 z57 st57 hQ57
  replace l57 := l57.symm; subst l57 y57 z57
  obtain ⟨rfl, N57q, e57⟩ := hQ57
  have N57 := Fr.app N54 N57q
  obtain ⟨T58, h58, k58, X58, e58, E58, A58, Ea58, st58⟩ := newPE X57 hx hZ (hw _ (List.mem_of_getElem? (i := 28) rfl)) e57 (g := (mkF m 134 #[.val (.ref a), .val (.long q), .second, .val (.int (2 : Int32)), .val (.int lw), .val (.int (1 : Int32)), .val (.int lw)] [(.int (own_max (lw - (32764 : Int32)) (0 : Int32))), (.int (1 : Int32)), (.ref b12)])) rfl (hb hby own_d_prog_35_method_1_code_134) rfl (own_tneg hlb) (cap := 4) (own_tcap hlb) (by decide) (by decide) (by decide) (ad := "[J") (by decide +kernel)
  obtain ⟨b58, g58⟩ : ∃ z, z = h54.size := ⟨_, rfl⟩
  rw [← g58] at A58 st58 Ea58
  have g_b58 : n0 ≤ b58 := Nat.le_trans z54 (Nat.le_of_eq g58.symm)
  have sz_b58 : h0.size ≤ b58 := Nat.le_trans K54.1 (Nat.le_of_eq g58.symm)
  have F58_0 := F54_0.ext E58
  have F58_1 := F54_1.ext E58
  have F58_2 := F54_2.ext E58
  have X58_0 := X54_0.ext E58
  have X58_1 := X54_1.ext E58
  have S58_0 := S54_0.ext E58
  have V58_0 := V_b10_54.ext E58
  have V58_1 := V54_1.ext E58
  have V58_2 := V54_2.ext E58
  have V58_3 := V54_3.ext E58
  have V58_4 := V54_4.ext E58
  have V58_5 := V54_5.ext E58
  have z58 : n0 ≤ h58.size := Nat.le_trans z54 E58.1
  have K58 : Keep h0 h58 [a] := K54.ext E58
  have V_b58 : Arv Z h58 b58 k58 .long (own_max (lw - (32764 : Int32)) (0 : Int32)) [] (.long (0 : Int64)) := (Arv.new A58 (own_tneg hlb)).pad (pad_rep [] (.long (0 : Int64)) 0)
  obtain ⟨cl59, Ar59, q59, S59, M59, H59, G59⟩ := id V58_1
  have hin59 : ¬ ((1 : Int32) < 0 ∨ cl59.slots.size ≤ ((1 : Int32)).toNatClampNeg) := inb_of S59 ⟨by decide, by decide⟩
  obtain ⟨T60, h60, X60, e60, W60, st60⟩ := stR X58 hx hZ e58 Ar59 (j := (1 : Int32)) hin59 rfl (own_stoA Ar59 q59 O12 (Ins.self Ea58)) (g := (mkF m 136 #[.val (.ref a), .val (.long q), .second, .val (.int (2 : Int32)), .val (.int lw), .val (.int (1 : Int32)), .val (.int lw)] [(.ref b58), (.int (1 : Int32)), (.ref b12)])) rfl rfl (hb hby own_d_prog_35_method_1_code_136)
  have V_b12_60 : Arv Z h60 b12 k12 (.array .long) (2 : Int32) [(.ref b29), (.ref b58)] .null := Arv.set Ar59 q59 S59 M59 H59 G59 rfl W60 1 rfl (Nat.le_of_ble_eq_true rfl)
  have F60_0 := F58_0.other W60 (Or.inl ne_a_b12)
  have F60_1 := F58_1.other W60 (Or.inl ne_a_b12)
  have F60_2 := F58_2.other W60 (Or.inl ne_a_b12)
  have X60_0 := X58_0.wr W60
  have X60_1 := X58_1.wr W60
  have X60_2 := Ea58.wr W60
  have S60_0 := S58_0.wr W60
  have V60_0 := V58_0.other W60 ne_b10_b12
  have V60_2 := V58_2.other W60 (Ne.symm ne_b12_b16)
  have V60_3 := V58_3.other W60 (Ne.symm ne_b12_b22)
  have V60_4 := V58_4.other W60 (Ne.symm ne_b12_b29)
  have ne_b12_b52 : b12 ≠ b52 := Nat.ne_of_lt (Nat.lt_of_lt_of_le (V46_1).lt (Nat.le_of_eq g52.symm))
  have V60_5 := V58_5.other W60 (Ne.symm ne_b12_b52)
  have ne_b12_b58 : b12 ≠ b58 := Nat.ne_of_lt (Nat.lt_of_lt_of_le (V54_1).lt (Nat.le_of_eq g58.symm))
  have V60_6 := V_b58.other W60 (Ne.symm ne_b12_b58)
  have z60 : n0 ≤ h60.size := by rw [W60.size]; exact z58
  have K60 : Keep h0 h60 [a] := K58.wr W60 (Or.inr sz_b12)
  have N60 := Fr.snoc X60 N57 g_b12
  have pre61 : ∀ tt_, Steps p.tables e below (T60.setTop (mkF m 137 #[.val (.ref a), .val (.long q), .second, .val (.int (2 : Int32)), .val (.int lw), .val (.int (1 : Int32)), .val (.int lw)] [])) tt_ → Steps p.tables e below (s₁.setTop (entryFrame m #[(.ref a), (.long q)] 7)) tt_ := fun tt_ kk_ => pre55 tt_ (by
    show Steps p.tables e below (T54.setTop (mkF m 118 #[.val (.ref a), .val (.long q), .second, .val (.int (2 : Int32)), .val (.int lw), .val (.int (1 : Int32)), .val (.int lw)] [])) _
    refine XS.aloadN X54.here hx rfl (hb hby own_d_prog_35_method_1_code_118) rfl rfl ?_
    refine st56 _ ?_
    refine XS.iload X56.here hx rfl (hb hby own_d_prog_35_method_1_code_122) rfl ?_
    refine XS.iload X56.here hx rfl (hb hby own_d_prog_35_method_1_code_124) rfl ?_
    refine XS.sipush X56.here hx rfl (hb hby own_d_prog_35_method_1_code_126) ?_
    show Steps p.tables e below (T56.setTop (mkF m 129 #[.val (.ref a), .val (.long q), .second, .val (.int (2 : Int32)), .val (.int lw), .val (.int (1 : Int32)), .val (.int lw)] [(.int (32764 : Int32)), (.int lw), (.int (1 : Int32)), (.ref b12)])) _
    refine XS.isub X56.here hx rfl (hb hby own_d_prog_35_method_1_code_129) rfl ?_
    refine XS.iconst X56.here hx rfl (hb hby own_d_prog_35_method_1_code_130) ?_
    show Steps p.tables e below (T56.setTop (mkF m 131 #[.val (.ref a), .val (.long q), .second, .val (.int (2 : Int32)), .val (.int lw), .val (.int (1 : Int32)), .val (.int lw)] [(.int (0 : Int32)), (.int (lw - (32764 : Int32))), (.int (1 : Int32)), (.ref b12)])) _
    refine st57 _ ?_
    refine st58 _ ?_
    refine st60 _ ?_
    exact kk_)
  obtain ⟨T62, X62, e62, st62⟩ := getF X60 hx hZ hown (host := "") (Or.inl (hw _ (List.mem_of_getElem? (i := 22) rfl))) Via.refl e60 F60_2 (g := (mkF m 138 #[.val (.ref a), .val (.long q), .second, .val (.int (2 : Int32)), .val (.int lw), .val (.int (1 : Int32)), .val (.int lw)] [(.ref a)])) rfl rfl (hb hby own_d_prog_35_method_1_code_138)
  have fold63 : ((2 : Int32) * (1 : Int32)) = (2 : Int32) := by decide +kernel
  obtain ⟨T64, X64, e64, st64⟩ := getF X62 hx hZ hown (host := "") (Or.inl (hw _ (List.mem_of_getElem? (i := 18) rfl))) Via.refl e62 F60_0 (g := (mkF m 146 #[.val (.ref a), .val (.long q), .second, .val (.int (2 : Int32)), .val (.int lw), .val (.int (1 : Int32)), .val (.int lw)] [(.ref a), (.int (2 : Int32)), (.ref b16)])) rfl rfl (hb hby own_d_prog_35_method_1_code_146)
  obtain ⟨cl65, Ar65, q65, S65, M65, H65, G65⟩ := id V60_0
  have hin65 : ¬ ((1 : Int32) < 0 ∨ cl65.slots.size ≤ ((1 : Int32)).toNatClampNeg) := inb_of S65 ⟨by decide, by decide⟩
  have hat65 : cl65.slots[((1 : Int32)).toNatClampNeg]? = some (.ref b52) := Has.at H65 hin65 rfl
  obtain ⟨cl66, Ar66, q66, S66, M66, H66, G66⟩ := id V60_2
  have hin66 : ¬ ((2 : Int32) < 0 ∨ cl66.slots.size ≤ ((2 : Int32)).toNatClampNeg) := inb_of S66 ⟨by decide, by decide⟩
  obtain ⟨T67, h67, X67, e67, W67, st67⟩ := stR X64 hx hZ e64 Ar66 (j := (2 : Int32)) hin66 rfl (own_stoA Ar66 q66 O16 (Ins.self X60_1)) (g := (mkF m 152 #[.val (.ref a), .val (.long q), .second, .val (.int (2 : Int32)), .val (.int lw), .val (.int (1 : Int32)), .val (.int lw)] [(.ref b52), (.int (2 : Int32)), (.ref b16)])) rfl rfl (hb hby own_d_prog_35_method_1_code_152)
  have V_b16_67 : Arv Z h67 b16 k16 (.array .long) (3 : Int32) [(.ref b22), (.ref b29), (.ref b52)] .null := Arv.set Ar66 q66 S66 M66 H66 G66 rfl W67 2 rfl (Nat.le_of_ble_eq_true rfl)
  have F67_0 := F60_0.other W67 (Or.inl ne_a_b16)
  have F67_1 := F60_1.other W67 (Or.inl ne_a_b16)
  have F67_2 := F60_2.other W67 (Or.inl ne_a_b16)
  have X67_0 := X60_0.wr W67
  have X67_1 := X60_1.wr W67
  have X67_2 := X60_2.wr W67
  have S67_0 := S60_0.wr W67
  have V67_0 := V60_0.other W67 ne_b10_b16
  have V67_1 := V_b12_60.other W67 ne_b12_b16
  have V67_3 := V60_3.other W67 (Ne.symm ne_b16_b22)
  have V67_4 := V60_4.other W67 (Ne.symm ne_b16_b29)
  have ne_b16_b52 : b16 ≠ b52 := Nat.ne_of_lt (Nat.lt_of_lt_of_le (V_b16_46).lt (Nat.le_of_eq g52.symm))
  have V67_5 := V60_5.other W67 (Ne.symm ne_b16_b52)
  have ne_b16_b58 : b16 ≠ b58 := Nat.ne_of_lt (Nat.lt_of_lt_of_le (V54_2).lt (Nat.le_of_eq g58.symm))
  have V67_6 := V60_6.other W67 (Ne.symm ne_b16_b58)
  have z67 : n0 ≤ h67.size := by rw [W67.size]; exact z60
  have K67 : Keep h0 h67 [a] := K60.wr W67 (Or.inr sz_b16)
  have N67 := Fr.snoc X67 N60 g_b16
  have pre68 : ∀ tt_, Steps p.tables e below (T67.setTop (mkF m 153 #[.val (.ref a), .val (.long q), .second, .val (.int (2 : Int32)), .val (.int lw), .val (.int (1 : Int32)), .val (.int lw)] [])) tt_ → Steps p.tables e below (s₁.setTop (entryFrame m #[(.ref a), (.long q)] 7)) tt_ := fun tt_ kk_ => pre61 tt_ (by
    show Steps p.tables e below (T60.setTop (mkF m 137 #[.val (.ref a), .val (.long q), .second, .val (.int (2 : Int32)), .val (.int lw), .val (.int (1 : Int32)), .val (.int lw)] [])) _
    refine XS.aloadN X60.here hx rfl (hb hby own_d_prog_35_method_1_code_137) rfl rfl ?_
    refine st62 _ ?_
    refine XS.iconst X62.here hx rfl (hb hby own_d_prog_35_method_1_code_141) ?_
    refine XS.iload X62.here hx rfl (hb hby own_d_prog_35_method_1_code_142) rfl ?_
    refine XS.imul X62.here hx rfl (hb hby own_d_prog_35_method_1_code_144) rfl ?_
    show Steps p.tables e below (T62.setTop (mkF m 145 #[.val (.ref a), .val (.long q), .second, .val (.int (2 : Int32)), .val (.int lw), .val (.int (1 : Int32)), .val (.int lw)] [(.int ((2 : Int32) * (1 : Int32))), (.ref b16)])) _
    rw [fold63]
    show Steps p.tables e below (T62.setTop (mkF m 145 #[.val (.ref a), .val (.long q), .second, .val (.int (2 : Int32)), .val (.int lw), .val (.int (1 : Int32)), .val (.int lw)] [(.int (2 : Int32)), (.ref b16)])) _
    refine XS.aloadN X62.here hx rfl (hb hby own_d_prog_35_method_1_code_145) rfl rfl ?_
    refine st64 _ ?_
    refine XS.iload X64.here hx rfl (hb hby own_d_prog_35_method_1_code_149) rfl ?_
    refine X64.aaload hx (j := (1 : Int32)) (v := (.ref b52)) (by rw [e64]; exact Ar65.1) (State.isArrayOf_alike hZ.alike Ar65.2.1) rfl Ar65.2.2 hin65 hat65 (g := (mkF m 151 #[.val (.ref a), .val (.long q), .second, .val (.int (2 : Int32)), .val (.int lw), .val (.int (1 : Int32)), .val (.int lw)] [(.int (1 : Int32)), (.ref b10), (.int (2 : Int32)), (.ref b16)])) rfl rfl (hb hby own_d_prog_35_method_1_code_151) _ ?_
    refine st67 _ ?_
    exact kk_)
  have fold69 : ((1 : Int32) + (1 : Int32)) = (2 : Int32) := by decide +kernel
  have pre70 : ∀ tt_, Steps p.tables e below (T67.setTop (mkF m 78 #[.val (.ref a), .val (.long q), .second, .val (.int (2 : Int32)), .val (.int lw), .val (.int (2 : Int32)), .val (.int lw)] [])) tt_ → Steps p.tables e below (s₁.setTop (entryFrame m #[(.ref a), (.long q)] 7)) tt_ := fun tt_ kk_ => pre68 tt_ (by
    show Steps p.tables e below (T67.setTop (mkF m 153 #[.val (.ref a), .val (.long q), .second, .val (.int (2 : Int32)), .val (.int lw), .val (.int (1 : Int32)), .val (.int lw)] [])) _
    refine XS.iload X67.here hx rfl (hb hby own_d_prog_35_method_1_code_153) rfl ?_
    refine XS.sipush X67.here hx rfl (hb hby own_d_prog_35_method_1_code_155) ?_
    refine XS.icmpYes X67.here hx rfl (pc0 := 158) (pc' := 179) rfl (hb hby own_d_prog_35_method_1_code_158) rfl (flt (ht : ¬ ((32764 : Int32) < lw))).2.2.2 (by decide) (by decide) ?_
    show Steps p.tables e below (T67.setTop (mkF m 179 #[.val (.ref a), .val (.long q), .second, .val (.int (2 : Int32)), .val (.int lw), .val (.int (1 : Int32)), .val (.int lw)] [])) _
    refine XS.iinc X67.here hx rfl (hb hby own_d_prog_35_method_1_code_179) rfl (l' := #[.val (.ref a), .val (.long q), .second, .val (.int (2 : Int32)), .val (.int lw), .val (.int ((1 : Int32) + (1 : Int32))), .val (.int lw)]) rfl ?_
    show Steps p.tables e below (T67.setTop (mkF m 182 #[.val (.ref a), .val (.long q), .second, .val (.int (2 : Int32)), .val (.int lw), .val (.int ((1 : Int32) + (1 : Int32))), .val (.int lw)] [])) _
    rw [fold69]
    show Steps p.tables e below (T67.setTop (mkF m 182 #[.val (.ref a), .val (.long q), .second, .val (.int (2 : Int32)), .val (.int lw), .val (.int (2 : Int32)), .val (.int lw)] [])) _
    refine XS.goto X67.here hx rfl (pc0 := 182) (pc' := 78) rfl (hb hby own_d_prog_35_method_1_code_182) (by decide) (by decide) ?_
    exact kk_)
  have pre71 : ∀ tt_, Steps p.tables e below (T67.setTop (mkF m 185 #[.val (.ref a), .val (.long q), .second, .val (.int (2 : Int32)), .val (.int lw), .val (.int (2 : Int32)), .val (.int lw)] [])) tt_ → Steps p.tables e below (s₁.setTop (entryFrame m #[(.ref a), (.long q)] 7)) tt_ := fun tt_ kk_ => pre70 tt_ (by
    show Steps p.tables e below (T67.setTop (mkF m 78 #[.val (.ref a), .val (.long q), .second, .val (.int (2 : Int32)), .val (.int lw), .val (.int (2 : Int32)), .val (.int lw)] [])) _
    refine XS.iload X67.here hx rfl (hb hby own_d_prog_35_method_1_code_78) rfl ?_
    refine XS.iloadN X67.here hx rfl (hb hby own_d_prog_35_method_1_code_80) rfl ?_
    refine XS.icmpYes X67.here hx rfl (pc0 := 81) (pc' := 185) rfl (hb hby own_d_prog_35_method_1_code_81) rfl (flt ((by decide) : ¬ ((2 : Int32) < (2 : Int32)))).2.1 (by decide) (by decide) ?_
    exact kk_)
  obtain ⟨fs, hr, hrun, hended, hW, hsame⟩ := X67.leave (v := none) (fun _ => rfl)
  refine ⟨_, _, pre71 _ ?_, hrun, hended, _, _, rfl, ?_, ⟨_, rfl⟩, hW, hsame.mono (by decide) (by decide)⟩
  · show Steps p.tables e below (T67.setTop (mkF m 185 #[.val (.ref a), .val (.long q), .second, .val (.int (2 : Int32)), .val (.int lw), .val (.int (2 : Int32)), .val (.int lw)] [])) _
    exact X67.returnOut hx Bd.returns (hb hby own_d_prog_35_method_1_code_185) hr
  · show QI Z a 2 lw h0 n0 _ T67.heap _
    rw [e67]
    have H1 : ∀ pg : Nat, pg < 2 → ∃ r, ([(.ref b22), (.ref b52)] : List Value).getD pg .null = .ref r ∧ ([(.ref b22), (.ref b29), (.ref b52)] : List Value).getD (2 * pg) .null = .ref r ∧ own_Len Z h67 r .long (own_lenH 2 lw pg) := by
      intro pg hp
      obtain rfl | rfl := own_lt2 hp
      · exact ⟨b22, rfl, rfl, own_Len.of (Arv.arh V67_3)⟩
      · exact ⟨b52, rfl, rfl, own_Len.of (Arv.arh V67_5)⟩
    have H2 : ∀ pg : Nat, pg < 2 → (pg + 1 < 2 ∨ (32764 : Int32) < lw) → ∃ r, ([(.ref b29), (.ref b58)] : List Value).getD pg .null = .ref r ∧ ([(.ref b22), (.ref b29), (.ref b52)] : List Value).getD (2 * pg + 1) .null = .ref r ∧ own_Len Z h67 r .long (own_lenT 2 lw pg) := by
      intro pg hp hq
      obtain rfl | rfl := own_lt2 hp
      · exact ⟨b29, rfl, rfl, own_Len.of (Arv.arh V67_4)⟩
      · exact absurd hq (fun q => q.elim (by decide) ht)
    exact ⟨rfl, N67, K67, b10, _, _, b12, _, _, b16, _, _, _, F67_0, F67_1, F67_2, V67_0, V67_1, V_b16_67, by rw [if_neg ht]; decide, H1, H2⟩
theorem own_ef_rmI_3_1 (m : MethodId) (y0 : Addr) (y1 : Int64) : entryFrame m #[(.ref y0), (.long y1)] 7 = mkF m 0 #[.val (.ref y0), .val (.long y1), .second, .unset, .unset, .unset, .unset] [] := by first | (simp [entryFrame, mkF, argsToLocals, Value.category]; done) | rfl
set_option maxRecDepth 65536 in
set_option maxHeartbeats 40000000 in
theorem rmI_3_1 (l : Launch) (Z : State) (a0 : Array Value) (hw : ∀ d ∈ tables_1, d.before a0 Z = true) (ws : List Jvm.Cond) (a : Addr) (q : Int64) (lw : Int32) (h0 : Heap) (n0 : Nat) (Z0 : n0 ≤ h0.size) (E_a : Exa Z h0 a "com/example/elderflower/elderflower/PagedWords") (g_a : n0 ≤ a) (F_size : Fld Z h0 a "com/example/elderflower/elderflower/PagedWords" "size" "J" (.long (0 : Int64))) (F_heads : Fld Z h0 a "com/example/elderflower/elderflower/PagedWords" "heads" "[[J" .null) (F_tails : Fld Z h0 a "com/example/elderflower/elderflower/PagedWords" "tails" "[[J" .null) (F_arrays : Fld Z h0 a "com/example/elderflower/elderflower/PagedWords" "arrays" "[[J" .null) (S_PAGE_SHIFT : Sta Z h0 "com/example/elderflower/elderflower/PagedWords" "PAGE_SHIFT" "I" (.int (15 : Int32))) (hpg : ((((q + (32768 : Int64)) - (1 : Int64)).toUInt64 >>> ((15 : Int32) &&& 0x3f).toInt64.toUInt64).toInt64).toInt32 = Int32.ofNat 3) (hlw : (q - Int64.ofNat ((3 - 1) * 32768)).toInt32 = lw) (hlb : own_LW lw) (ht : (32764 : Int32) < lw) :
    MetFree l (⟨"com/example/elderflower/elderflower/PagedWords", "<init>", "(J)V"⟩ : MethodName) (head1 (Jvm.Cond.code (⟨"com/example/elderflower/elderflower/PagedWords", "<init>", "(J)V"⟩ : MethodName) prog_35_method_1_code 7 none :: ws) ({ frames := 1, cells := 11, slots := 131088, locals := 15 } : Room)) (fun ar_ U => ar_ = #[(.ref a), (.long q)] ∧ Z.Warmed39 U.vm ∧ U.heap = h0) (fun _ _ _ _ _ => True) (fun _ U o U' => ∃ v L, o = .returned v ∧ QI Z a 3 lw h0 n0 v U'.heap L ∧ FrameEnd U o U' L ({ frames := 1, cells := 11, slots := 131088, locals := 15 } : Room).cells ({ frames := 1, cells := 11, slots := 131088, locals := 15 } : Room).slots) := by
  refine MetFree.of_bodySF (plainFor_of_name own_pn0) hisR ?_
  intro p e s m args below meth c s₁ Bd hml0 hP hK
  obtain ⟨rfl, hZ, hh⟩ := hP
  have hx := Bd.exec
  have hby := Bd.bytes
  have hml : c.maxLocals = 7 := hml0
  have hown : s.vm.findClass "com/example/elderflower/elderflower/PagedWords" = some m.cls := findClass_of_methodNamed Bd.named
  have hnm := (name_of_methodNamed Bd.named Bd.method).1
  have X0 : Stand p l e ({ frames := 1, cells := 11, slots := 131088, locals := 15 } : Room) s m #[(.ref a), (.long q)] below meth c s₁ [] 0 0 := Stand.of_body Bd
  have e0 : s₁.heap = h0 := by rw [← hh, Bd.state]; rfl
  have N0 := Fr.nil n0
  have pre0 : ∀ tt_, Steps p.tables e below (s₁.setTop (mkF m 0 #[.val (.ref a), .val (.long q), .second, .unset, .unset, .unset, .unset] [])) tt_ → Steps p.tables e below (s₁.setTop (entryFrame m #[(.ref a), (.long q)] 7)) tt_ := fun tt_ kk_ => castTop (own_ef_rmI_3_1 m a q) kk_
  obtain ⟨T1, X1, e1, st1⟩ := initO X0 hx hZ hown (hw _ (List.mem_of_getElem? (i := 8) rfl)) (hw _ (List.mem_of_getElem? (i := 9) rfl)) (hw _ (List.mem_of_getElem? (i := 10) rfl)) e0 (g := (mkF m 1 #[.val (.ref a), .val (.long q), .second, .unset, .unset, .unset, .unset] [(.ref a)])) rfl (by rw [hml]; rfl) rfl (hb hby own_d_prog_35_method_1_code_1) (by decide) (W := 0) (by show 2 * 0 + _ ≤ _; exact Nat.le_of_eq rfl) (by decide)
  obtain ⟨T2, X2, e2, st2⟩ := getS2 X1 hx hZ hown (host := "") (Or.inl (hw _ (List.mem_of_getElem? (i := 12) rfl))) Via.refl e1 S_PAGE_SHIFT (g := (mkF m 11 #[.val (.ref a), .val (.long q), .second, .unset, .unset, .unset, .unset] [(.long ((q + (32768 : Int64)) - (1 : Int64)))])) rfl (hb hby own_d_prog_35_method_1_code_11)
  have hpg' : (((((q + (32768 : Int64)) - (1 : Int64)).toUInt64 >>> ((15 : Int32) &&& 0x3f).toInt64.toUInt64).toInt64).toInt32) = (3 : Int32) := hpg
  have pre3 : ∀ tt_, Steps p.tables e below (T2.setTop (mkF m 16 #[.val (.ref a), .val (.long q), .second, .unset, .unset, .unset, .unset] [(.int (((((q + (32768 : Int64)) - (1 : Int64)).toUInt64 >>> ((15 : Int32) &&& 0x3f).toInt64.toUInt64).toInt64).toInt32))])) tt_ → Steps p.tables e below (s₁.setTop (entryFrame m #[(.ref a), (.long q)] 7)) tt_ := fun tt_ kk_ => pre0 tt_ (by
    show Steps p.tables e below (s₁.setTop (mkF m 0 #[.val (.ref a), .val (.long q), .second, .unset, .unset, .unset, .unset] [])) _
    refine XS.aloadN X0.here hx rfl (hb hby own_d_prog_35_method_1_code_0) rfl rfl ?_
    refine st1 _ ?_
    refine XS.lloadN X1.here hx rfl (hb hby own_d_prog_35_method_1_code_4) rfl ?_
    refine X1.ldc2Long hx hown (mvT hZ (hw _ (List.mem_of_getElem? (i := 11) rfl))) (g := (mkF m 5 #[.val (.ref a), .val (.long q), .second, .unset, .unset, .unset, .unset] [(.long q)])) rfl (hb hby own_d_prog_35_method_1_code_5) _ ?_
    refine XS.ladd X1.here hx rfl (hb hby own_d_prog_35_method_1_code_8) rfl ?_
    refine XS.lconst X1.here hx rfl (hb hby own_d_prog_35_method_1_code_9) ?_
    show Steps p.tables e below (T1.setTop (mkF m 10 #[.val (.ref a), .val (.long q), .second, .unset, .unset, .unset, .unset] [(.long (1 : Int64)), (.long (q + (32768 : Int64)))])) _
    refine XS.lsub X1.here hx rfl (hb hby own_d_prog_35_method_1_code_10) rfl ?_
    refine st2 _ ?_
    refine XS.lushr X2.here hx rfl (hb hby own_d_prog_35_method_1_code_14) rfl ?_
    refine XS.l2i X2.here hx rfl (hb hby own_d_prog_35_method_1_code_15) rfl ?_
    exact kk_)
  rw [hpg'] at pre3
  have fold4 : ((3 : Int32) - (1 : Int32)) = (2 : Int32) := by decide +kernel
  have fold5 : ((2 : Int32).toInt64) = (2 : Int64) := by decide +kernel
  obtain ⟨T6, X6, e6, st6⟩ := getS2 X2 hx hZ hown (host := "") (Or.inl (hw _ (List.mem_of_getElem? (i := 12) rfl))) Via.refl e2 S_PAGE_SHIFT (g := (mkF m 22 #[.val (.ref a), .val (.long q), .second, .val (.int (3 : Int32)), .unset, .unset, .unset] [(.long (2 : Int64)), (.long q)])) rfl (hb hby own_d_prog_35_method_1_code_22)
  have fold7 : ((2 : Int64) <<< ((15 : Int32) &&& 0x3f).toInt64) = (65536 : Int64) := by decide +kernel
  have hlw' : ((q - (65536 : Int64)).toInt32) = lw := by rw [← hlw]; rfl
  have pre8 : ∀ tt_, Steps p.tables e below (T6.setTop (mkF m 28 #[.val (.ref a), .val (.long q), .second, .val (.int (3 : Int32)), .unset, .unset, .unset] [(.int ((q - (65536 : Int64)).toInt32))])) tt_ → Steps p.tables e below (s₁.setTop (entryFrame m #[(.ref a), (.long q)] 7)) tt_ := fun tt_ kk_ => pre3 tt_ (by
    show Steps p.tables e below (T2.setTop (mkF m 16 #[.val (.ref a), .val (.long q), .second, .unset, .unset, .unset, .unset] [(.int (3 : Int32))])) _
    refine XS.istoreN X2.here hx rfl (hb hby own_d_prog_35_method_1_code_16) rfl (l' := #[.val (.ref a), .val (.long q), .second, .val (.int (3 : Int32)), .unset, .unset, .unset]) rfl ?_
    refine XS.lloadN X2.here hx rfl (hb hby own_d_prog_35_method_1_code_17) rfl ?_
    refine XS.iloadN X2.here hx rfl (hb hby own_d_prog_35_method_1_code_18) rfl ?_
    show Steps p.tables e below (T2.setTop (mkF m 19 #[.val (.ref a), .val (.long q), .second, .val (.int (3 : Int32)), .unset, .unset, .unset] [(.int (3 : Int32)), (.long q)])) _
    refine XS.iconst X2.here hx rfl (hb hby own_d_prog_35_method_1_code_19) ?_
    refine XS.isub X2.here hx rfl (hb hby own_d_prog_35_method_1_code_20) rfl ?_
    show Steps p.tables e below (T2.setTop (mkF m 21 #[.val (.ref a), .val (.long q), .second, .val (.int (3 : Int32)), .unset, .unset, .unset] [(.int ((3 : Int32) - (1 : Int32))), (.long q)])) _
    rw [fold4]
    show Steps p.tables e below (T2.setTop (mkF m 21 #[.val (.ref a), .val (.long q), .second, .val (.int (3 : Int32)), .unset, .unset, .unset] [(.int (2 : Int32)), (.long q)])) _
    refine XS.i2l X2.here hx rfl (hb hby own_d_prog_35_method_1_code_21) rfl ?_
    show Steps p.tables e below (T2.setTop (mkF m 22 #[.val (.ref a), .val (.long q), .second, .val (.int (3 : Int32)), .unset, .unset, .unset] [(.long ((2 : Int32).toInt64)), (.long q)])) _
    rw [fold5]
    show Steps p.tables e below (T2.setTop (mkF m 22 #[.val (.ref a), .val (.long q), .second, .val (.int (3 : Int32)), .unset, .unset, .unset] [(.long (2 : Int64)), (.long q)])) _
    refine st6 _ ?_
    refine XS.lshl X6.here hx rfl (hb hby own_d_prog_35_method_1_code_25) rfl ?_
    show Steps p.tables e below (T6.setTop (mkF m 26 #[.val (.ref a), .val (.long q), .second, .val (.int (3 : Int32)), .unset, .unset, .unset] [(.long ((2 : Int64) <<< ((15 : Int32) &&& 0x3f).toInt64)), (.long q)])) _
    rw [fold7]
    show Steps p.tables e below (T6.setTop (mkF m 26 #[.val (.ref a), .val (.long q), .second, .val (.int (3 : Int32)), .unset, .unset, .unset] [(.long (65536 : Int64)), (.long q)])) _
    refine XS.lsub X6.here hx rfl (hb hby own_d_prog_35_method_1_code_26) rfl ?_
    refine XS.l2i X6.here hx rfl (hb hby own_d_prog_35_method_1_code_27) rfl ?_
    exact kk_)
  rw [hlw'] at pre8
  obtain ⟨T9, h9, X9, e9, W9, st9⟩ := putF X6 hx hZ hown (host := "") (Or.inl (hw _ (List.mem_of_getElem? (i := 14) rfl))) Via.refl e6 F_size E_a (Or.inr ⟨(hw _ (List.mem_of_getElem? (i := 15) rfl)), rfl, hnm⟩) (hw _ (List.mem_of_getElem? (i := 3) rfl)) (ty := .long) (by decide) rfl rfl (g := (mkF m 32 #[.val (.ref a), .val (.long q), .second, .val (.int (3 : Int32)), .val (.int lw), .unset, .unset] [(.long q), (.ref a)])) rfl rfl (hb hby own_d_prog_35_method_1_code_32)
  have F9_0 := F_size.same W9
  have F9_1 := F_heads.other W9 (Or.inr (slot_ne (Or.inr (hw _ (List.mem_of_getElem? (i := 19) rfl))) (Or.inr (hw _ (List.mem_of_getElem? (i := 15) rfl))) (by decide) (t := (.array (.array .long))) (t' := .long) (by decide) (by decide)))
  have F9_2 := F_tails.other W9 (Or.inr (slot_ne (Or.inr (hw _ (List.mem_of_getElem? (i := 21) rfl))) (Or.inr (hw _ (List.mem_of_getElem? (i := 15) rfl))) (by decide) (t := (.array (.array .long))) (t' := .long) (by decide) (by decide)))
  have F9_3 := F_arrays.other W9 (Or.inr (slot_ne (Or.inr (hw _ (List.mem_of_getElem? (i := 23) rfl))) (Or.inr (hw _ (List.mem_of_getElem? (i := 15) rfl))) (by decide) (t := (.array (.array .long))) (t' := .long) (by decide) (by decide)))
  have X9_0 := E_a.wr W9
  have S9_0 := S_PAGE_SHIFT.wr W9
  have z9 : n0 ≤ h9.size := by rw [W9.size]; exact Z0
  have K9 : Keep h0 h9 [a] := (Keep.refl h0 [a]).wr W9 (Or.inl (by simp))
  have N9 := Fr.snoc X9 N0 g_a
  obtain ⟨T10, h10, k10, X10, e10, E10, A10, O10, st10⟩ := own_newRA X9 hx hZ hown (hw _ (List.mem_of_getElem? (i := 16) rfl)) (hw _ (List.mem_of_getElem? (i := 17) rfl)) (by decide +kernel) e9 (g := (mkF m 37 #[.val (.ref a), .val (.long q), .second, .val (.int (3 : Int32)), .val (.int lw), .unset, .unset] [(.int (3 : Int32)), (.ref a)])) rfl (hb hby own_d_prog_35_method_1_code_37) rfl (by decide) (cap := 3) (by decide) (by decide) (by decide) (by decide)
  obtain ⟨b10, g10⟩ : ∃ z, z = h9.size := ⟨_, rfl⟩
  rw [← g10] at A10 st10
  have g_b10 : n0 ≤ b10 := Nat.le_trans z9 (Nat.le_of_eq g10.symm)
  have sz_b10 : h0.size ≤ b10 := Nat.le_trans K9.1 (Nat.le_of_eq g10.symm)
  have F10_0 := F9_0.ext E10
  have F10_1 := F9_1.ext E10
  have F10_2 := F9_2.ext E10
  have F10_3 := F9_3.ext E10
  have X10_0 := X9_0.ext E10
  have S10_0 := S9_0.ext E10
  have z10 : n0 ≤ h10.size := Nat.le_trans z9 E10.1
  have K10 : Keep h0 h10 [a] := K9.ext E10
  have V_b10 : Arv Z h10 b10 k10 (.array .long) (3 : Int32) [.null, .null, .null] .null := (Arv.new A10 (by decide)).pad (pad_rep [] .null 3)
  obtain ⟨T11, h11, X11, e11, W11, st11⟩ := putF X10 hx hZ hown (host := "") (Or.inl (hw _ (List.mem_of_getElem? (i := 18) rfl))) Via.refl e10 F10_1 X10_0 (Or.inr ⟨(hw _ (List.mem_of_getElem? (i := 19) rfl)), rfl, hnm⟩) (hw _ (List.mem_of_getElem? (i := 3) rfl)) (ty := (.array (.array .long))) (by decide) rfl rfl (g := (mkF m 40 #[.val (.ref a), .val (.long q), .second, .val (.int (3 : Int32)), .val (.int lw), .unset, .unset] [(.ref b10), (.ref a)])) rfl rfl (hb hby own_d_prog_35_method_1_code_40)
  have F11_0 := F10_0.other W11 (Or.inr (slot_ne (Or.inr (hw _ (List.mem_of_getElem? (i := 15) rfl))) (Or.inr (hw _ (List.mem_of_getElem? (i := 19) rfl))) (by decide) (t := .long) (t' := (.array (.array .long))) (by decide) (by decide)))
  have F11_1 := F10_1.same W11
  have F11_2 := F10_2.other W11 (Or.inr (slot_ne (Or.inr (hw _ (List.mem_of_getElem? (i := 21) rfl))) (Or.inr (hw _ (List.mem_of_getElem? (i := 19) rfl))) (by decide) (t := (.array (.array .long))) (t' := (.array (.array .long))) (by decide) (by decide)))
  have F11_3 := F10_3.other W11 (Or.inr (slot_ne (Or.inr (hw _ (List.mem_of_getElem? (i := 23) rfl))) (Or.inr (hw _ (List.mem_of_getElem? (i := 19) rfl))) (by decide) (t := (.array (.array .long))) (t' := (.array (.array .long))) (by decide) (by decide)))
  have X11_0 := X10_0.wr W11
  have S11_0 := S10_0.wr W11
  have ne_a_b10 : a ≠ b10 := Nat.ne_of_lt (Nat.lt_of_lt_of_le (X9_0).lt (Nat.le_of_eq g10.symm))
  have V11_0 := V_b10.other W11 (Ne.symm ne_a_b10)
  have z11 : n0 ≤ h11.size := by rw [W11.size]; exact z10
  have K11 : Keep h0 h11 [a] := K10.wr W11 (Or.inl (by simp))
  have N11 := Fr.snoc X11 N9 g_a
  obtain ⟨T12, h12, k12, X12, e12, E12, A12, O12, st12⟩ := own_newRA X11 hx hZ hown (hw _ (List.mem_of_getElem? (i := 16) rfl)) (hw _ (List.mem_of_getElem? (i := 17) rfl)) (by decide +kernel) e11 (g := (mkF m 45 #[.val (.ref a), .val (.long q), .second, .val (.int (3 : Int32)), .val (.int lw), .unset, .unset] [(.int (3 : Int32)), (.ref a)])) rfl (hb hby own_d_prog_35_method_1_code_45) rfl (by decide) (cap := 3) (by decide) (by decide) (by decide) (by decide)
  obtain ⟨b12, g12⟩ : ∃ z, z = h11.size := ⟨_, rfl⟩
  rw [← g12] at A12 st12
  have g_b12 : n0 ≤ b12 := Nat.le_trans z11 (Nat.le_of_eq g12.symm)
  have sz_b12 : h0.size ≤ b12 := Nat.le_trans K11.1 (Nat.le_of_eq g12.symm)
  have F12_0 := F11_0.ext E12
  have F12_1 := F11_1.ext E12
  have F12_2 := F11_2.ext E12
  have F12_3 := F11_3.ext E12
  have X12_0 := X11_0.ext E12
  have S12_0 := S11_0.ext E12
  have V12_0 := V11_0.ext E12
  have z12 : n0 ≤ h12.size := Nat.le_trans z11 E12.1
  have K12 : Keep h0 h12 [a] := K11.ext E12
  have V_b12 : Arv Z h12 b12 k12 (.array .long) (3 : Int32) [.null, .null, .null] .null := (Arv.new A12 (by decide)).pad (pad_rep [] .null 3)
  obtain ⟨T13, h13, X13, e13, W13, st13⟩ := putF X12 hx hZ hown (host := "") (Or.inl (hw _ (List.mem_of_getElem? (i := 20) rfl))) Via.refl e12 F12_2 X12_0 (Or.inr ⟨(hw _ (List.mem_of_getElem? (i := 21) rfl)), rfl, hnm⟩) (hw _ (List.mem_of_getElem? (i := 3) rfl)) (ty := (.array (.array .long))) (by decide) rfl rfl (g := (mkF m 48 #[.val (.ref a), .val (.long q), .second, .val (.int (3 : Int32)), .val (.int lw), .unset, .unset] [(.ref b12), (.ref a)])) rfl rfl (hb hby own_d_prog_35_method_1_code_48)
  have F13_0 := F12_0.other W13 (Or.inr (slot_ne (Or.inr (hw _ (List.mem_of_getElem? (i := 15) rfl))) (Or.inr (hw _ (List.mem_of_getElem? (i := 21) rfl))) (by decide) (t := .long) (t' := (.array (.array .long))) (by decide) (by decide)))
  have F13_1 := F12_1.other W13 (Or.inr (slot_ne (Or.inr (hw _ (List.mem_of_getElem? (i := 19) rfl))) (Or.inr (hw _ (List.mem_of_getElem? (i := 21) rfl))) (by decide) (t := (.array (.array .long))) (t' := (.array (.array .long))) (by decide) (by decide)))
  have F13_2 := F12_2.same W13
  have F13_3 := F12_3.other W13 (Or.inr (slot_ne (Or.inr (hw _ (List.mem_of_getElem? (i := 23) rfl))) (Or.inr (hw _ (List.mem_of_getElem? (i := 21) rfl))) (by decide) (t := (.array (.array .long))) (t' := (.array (.array .long))) (by decide) (by decide)))
  have X13_0 := X12_0.wr W13
  have S13_0 := S12_0.wr W13
  have V13_0 := V12_0.other W13 (Ne.symm ne_a_b10)
  have ne_a_b12 : a ≠ b12 := Nat.ne_of_lt (Nat.lt_of_lt_of_le (X11_0).lt (Nat.le_of_eq g12.symm))
  have V13_1 := V_b12.other W13 (Ne.symm ne_a_b12)
  have z13 : n0 ≤ h13.size := by rw [W13.size]; exact z12
  have K13 : Keep h0 h13 [a] := K12.wr W13 (Or.inl (by simp))
  have N13 := Fr.snoc X13 N11 g_a
  have fold14 : ((2 : Int32) * (3 : Int32)) = (6 : Int32) := by decide +kernel
  have fold15 : ((6 : Int32) - (0 : Int32)) = (6 : Int32) := by decide +kernel
  obtain ⟨T16, h16, k16, X16, e16, E16, A16, O16, st16⟩ := own_newRA X13 hx hZ hown (hw _ (List.mem_of_getElem? (i := 16) rfl)) (hw _ (List.mem_of_getElem? (i := 17) rfl)) (by decide +kernel) e13 (g := (mkF m 69 #[.val (.ref a), .val (.long q), .second, .val (.int (3 : Int32)), .val (.int lw), .unset, .unset] [(.int (6 : Int32)), (.ref a)])) rfl (hb hby own_d_prog_35_method_1_code_69) rfl (by decide) (cap := 6) (by decide) (by decide) (by decide) (by decide)
  obtain ⟨b16, g16⟩ : ∃ z, z = h13.size := ⟨_, rfl⟩
  rw [← g16] at A16 st16
  have g_b16 : n0 ≤ b16 := Nat.le_trans z13 (Nat.le_of_eq g16.symm)
  have sz_b16 : h0.size ≤ b16 := Nat.le_trans K13.1 (Nat.le_of_eq g16.symm)
  have F16_0 := F13_0.ext E16
  have F16_1 := F13_1.ext E16
  have F16_2 := F13_2.ext E16
  have F16_3 := F13_3.ext E16
  have X16_0 := X13_0.ext E16
  have S16_0 := S13_0.ext E16
  have V16_0 := V13_0.ext E16
  have V16_1 := V13_1.ext E16
  have z16 : n0 ≤ h16.size := Nat.le_trans z13 E16.1
  have K16 : Keep h0 h16 [a] := K13.ext E16
  have V_b16 : Arv Z h16 b16 k16 (.array .long) (6 : Int32) [.null, .null, .null, .null, .null, .null] .null := (Arv.new A16 (by decide)).pad (pad_rep [] .null 6)
  obtain ⟨T17, h17, X17, e17, W17, st17⟩ := putF X16 hx hZ hown (host := "") (Or.inl (hw _ (List.mem_of_getElem? (i := 22) rfl))) Via.refl e16 F16_3 X16_0 (Or.inr ⟨(hw _ (List.mem_of_getElem? (i := 23) rfl)), rfl, hnm⟩) (hw _ (List.mem_of_getElem? (i := 3) rfl)) (ty := (.array (.array .long))) (by decide) rfl rfl (g := (mkF m 72 #[.val (.ref a), .val (.long q), .second, .val (.int (3 : Int32)), .val (.int lw), .unset, .unset] [(.ref b16), (.ref a)])) rfl rfl (hb hby own_d_prog_35_method_1_code_72)
  have F17_0 := F16_0.other W17 (Or.inr (slot_ne (Or.inr (hw _ (List.mem_of_getElem? (i := 15) rfl))) (Or.inr (hw _ (List.mem_of_getElem? (i := 23) rfl))) (by decide) (t := .long) (t' := (.array (.array .long))) (by decide) (by decide)))
  have F17_1 := F16_1.other W17 (Or.inr (slot_ne (Or.inr (hw _ (List.mem_of_getElem? (i := 19) rfl))) (Or.inr (hw _ (List.mem_of_getElem? (i := 23) rfl))) (by decide) (t := (.array (.array .long))) (t' := (.array (.array .long))) (by decide) (by decide)))
  have F17_2 := F16_2.other W17 (Or.inr (slot_ne (Or.inr (hw _ (List.mem_of_getElem? (i := 21) rfl))) (Or.inr (hw _ (List.mem_of_getElem? (i := 23) rfl))) (by decide) (t := (.array (.array .long))) (t' := (.array (.array .long))) (by decide) (by decide)))
  have F17_3 := F16_3.same W17
  have X17_0 := X16_0.wr W17
  have S17_0 := S16_0.wr W17
  have V17_0 := V16_0.other W17 (Ne.symm ne_a_b10)
  have V17_1 := V16_1.other W17 (Ne.symm ne_a_b12)
  have ne_a_b16 : a ≠ b16 := Nat.ne_of_lt (Nat.lt_of_lt_of_le (X13_0).lt (Nat.le_of_eq g16.symm))
  have V17_2 := V_b16.other W17 (Ne.symm ne_a_b16)
  have z17 : n0 ≤ h17.size := by rw [W17.size]; exact z16
  have K17 : Keep h0 h17 [a] := K16.wr W17 (Or.inl (by simp))
  have N17 := Fr.snoc X17 N13 g_a
  have pre18 : ∀ tt_, Steps p.tables e below (T17.setTop (mkF m 78 #[.val (.ref a), .val (.long q), .second, .val (.int (3 : Int32)), .val (.int lw), .val (.int (0 : Int32)), .unset] [])) tt_ → Steps p.tables e below (s₁.setTop (entryFrame m #[(.ref a), (.long q)] 7)) tt_ := fun tt_ kk_ => pre8 tt_ (by
    show Steps p.tables e below (T6.setTop (mkF m 28 #[.val (.ref a), .val (.long q), .second, .val (.int (3 : Int32)), .unset, .unset, .unset] [(.int lw)])) _
    refine XS.istore X6.here hx rfl (hb hby own_d_prog_35_method_1_code_28) rfl (l' := #[.val (.ref a), .val (.long q), .second, .val (.int (3 : Int32)), .val (.int lw), .unset, .unset]) rfl ?_
    refine XS.aloadN X6.here hx rfl (hb hby own_d_prog_35_method_1_code_30) rfl rfl ?_
    refine XS.lloadN X6.here hx rfl (hb hby own_d_prog_35_method_1_code_31) rfl ?_
    refine st9 _ ?_
    refine XS.aloadN X9.here hx rfl (hb hby own_d_prog_35_method_1_code_35) rfl rfl ?_
    refine XS.iloadN X9.here hx rfl (hb hby own_d_prog_35_method_1_code_36) rfl ?_
    refine st10 _ ?_
    refine st11 _ ?_
    refine XS.aloadN X11.here hx rfl (hb hby own_d_prog_35_method_1_code_43) rfl rfl ?_
    show Steps p.tables e below (T11.setTop (mkF m 44 #[.val (.ref a), .val (.long q), .second, .val (.int (3 : Int32)), .val (.int lw), .unset, .unset] [(.ref a)])) _
    refine XS.iloadN X11.here hx rfl (hb hby own_d_prog_35_method_1_code_44) rfl ?_
    refine st12 _ ?_
    refine st13 _ ?_
    refine XS.aloadN X13.here hx rfl (hb hby own_d_prog_35_method_1_code_51) rfl rfl ?_
    refine XS.iconst X13.here hx rfl (hb hby own_d_prog_35_method_1_code_52) ?_
    refine XS.iloadN X13.here hx rfl (hb hby own_d_prog_35_method_1_code_53) rfl ?_
    refine XS.imul X13.here hx rfl (hb hby own_d_prog_35_method_1_code_54) rfl ?_
    show Steps p.tables e below (T13.setTop (mkF m 55 #[.val (.ref a), .val (.long q), .second, .val (.int (3 : Int32)), .val (.int lw), .unset, .unset] [(.int ((2 : Int32) * (3 : Int32))), (.ref a)])) _
    rw [fold14]
    show Steps p.tables e below (T13.setTop (mkF m 55 #[.val (.ref a), .val (.long q), .second, .val (.int (3 : Int32)), .val (.int lw), .unset, .unset] [(.int (6 : Int32)), (.ref a)])) _
    refine XS.iload X13.here hx rfl (hb hby own_d_prog_35_method_1_code_55) rfl ?_
    show Steps p.tables e below (T13.setTop (mkF m 57 #[.val (.ref a), .val (.long q), .second, .val (.int (3 : Int32)), .val (.int lw), .unset, .unset] [(.int lw), (.int (6 : Int32)), (.ref a)])) _
    refine XS.sipush X13.here hx rfl (hb hby own_d_prog_35_method_1_code_57) ?_
    refine XS.icmpNo X13.here hx rfl (hb hby own_d_prog_35_method_1_code_60) rfl (tlt (ht : (32764 : Int32) < lw)).2.2.2 ?_
    refine XS.iconst X13.here hx rfl (hb hby own_d_prog_35_method_1_code_63) ?_
    refine XS.goto X13.here hx rfl (pc0 := 64) (pc' := 68) rfl (hb hby own_d_prog_35_method_1_code_64) (by decide) (by decide) ?_
    refine XS.isub X13.here hx rfl (hb hby own_d_prog_35_method_1_code_68) rfl ?_
    show Steps p.tables e below (T13.setTop (mkF m 69 #[.val (.ref a), .val (.long q), .second, .val (.int (3 : Int32)), .val (.int lw), .unset, .unset] [(.int ((6 : Int32) - (0 : Int32))), (.ref a)])) _
    rw [fold15]
    show Steps p.tables e below (T13.setTop (mkF m 69 #[.val (.ref a), .val (.long q), .second, .val (.int (3 : Int32)), .val (.int lw), .unset, .unset] [(.int (6 : Int32)), (.ref a)])) _
    refine st16 _ ?_
    refine st17 _ ?_
    refine XS.iconst X17.here hx rfl (hb hby own_d_prog_35_method_1_code_75) ?_
    show Steps p.tables e below (T17.setTop (mkF m 76 #[.val (.ref a), .val (.long q), .second, .val (.int (3 : Int32)), .val (.int lw), .unset, .unset] [(.int (0 : Int32))])) _
    refine XS.istore X17.here hx rfl (hb hby own_d_prog_35_method_1_code_76) rfl (l' := #[.val (.ref a), .val (.long q), .second, .val (.int (3 : Int32)), .val (.int lw), .val (.int (0 : Int32)), .unset]) rfl ?_
    exact kk_)
  have fold19 : ((3 : Int32) - (1 : Int32)) = (2 : Int32) := by decide +kernel
  obtain ⟨T20, X20, e20, st20⟩ := getF X17 hx hZ hown (host := "") (Or.inl (hw _ (List.mem_of_getElem? (i := 18) rfl))) Via.refl e17 F17_1 (g := (mkF m 102 #[.val (.ref a), .val (.long q), .second, .val (.int (3 : Int32)), .val (.int lw), .val (.int (0 : Int32)), .val (.int (32768 : Int32))] [(.ref a)])) rfl rfl (hb hby own_d_prog_35_method_1_code_102)
  obtain ⟨_, _, ⟨T21, L21, k21, n21⟩, -, X21, ⟨Lc21, hQ21, l21, y21, z21⟩, st21⟩ := Jvm.LawKit.callS X20 hx (y := (⟨"java/lang/Math", "min", "(II)I"⟩ : MethodName)) hown (mvT hZ (hw _ (List.mem_of_getElem? (i := 24) rfl))) (mvT hZ (hw _ (List.mem_of_getElem? (i := 25) rfl))) (mvT hZ (hw _ (List.mem_of_getElem? (i := 26) rfl))) (mvT hZ (hw _ (List.mem_of_getElem? (i := 27) rfl))) (by decide) (backOf (W := 2) (rmMin l Z a0 hw [] (32768 : Int32) (32764 : Int32) (32764 : Int32) h17 n0 z17 (by decide)) hZ (hw _ (List.mem_of_getElem? (i := 27) rfl)) (hw _ (List.mem_of_getElem? (i := 26) rfl)) (by decide) (by decide)) (g := (mkF m 112 #[.val (.ref a), .val (.long q), .second, .val (.int (3 : Int32)), .val (.int lw), .val (.int (0 : Int32)), .val (.int (32768 : Int32))] [(.int (32764 : Int32)), (.int (32768 : Int32)), (.int (0 : Int32)), (.ref b10)])) rfl (by rw [hml]; rfl) (argsL := [(.int (32768 : Int32)), (.int (32764 : Int32))]) (rest := [(.int (0 : Int32)), (.ref b10)]) (lenOf own_pd0 rfl) rfl (by show 2 * 0 + _ ≤ _; exact Nat.le_of_eq rfl) (hb hby own_d_prog_35_method_1_code_112) (fun _ _ => ⟨rfl, e20, (by decide : 3 + 0 ≤ _), (by decide : 12 + 0 ≤ _)⟩)
  dsimp only [Pt.U, Pt.locs, Pt.cells, Pt.slots] at X21 l21 y21 z21 st21 hQ21
  replace l21 := l21.symm; subst l21 y21 z21
  obtain ⟨rfl, N21q, e21⟩ := hQ21
  have N21 := Fr.app N17 N21q
  obtain ⟨T22, h22, k22, X22, e22, E22, A22, Ea22, st22⟩ := newPE X21 hx hZ (hw _ (List.mem_of_getElem? (i := 28) rfl)) e21 (g := (mkF m 115 #[.val (.ref a), .val (.long q), .second, .val (.int (3 : Int32)), .val (.int lw), .val (.int (0 : Int32)), .val (.int (32768 : Int32))] [(.int (32764 : Int32)), (.int (0 : Int32)), (.ref b10)])) rfl (hb hby own_d_prog_35_method_1_code_115) rfl (by decide) (cap := 32764) (by decide) (by decide) (by decide) (by decide) (ad := "[J") (by decide +kernel)
  obtain ⟨b22, g22⟩ : ∃ z, z = h17.size := ⟨_, rfl⟩
  rw [← g22] at A22 st22 Ea22
  have g_b22 : n0 ≤ b22 := Nat.le_trans z17 (Nat.le_of_eq g22.symm)
  have sz_b22 : h0.size ≤ b22 := Nat.le_trans K17.1 (Nat.le_of_eq g22.symm)
  have F22_0 := F17_0.ext E22
  have F22_1 := F17_1.ext E22
  have F22_2 := F17_2.ext E22
  have F22_3 := F17_3.ext E22
  have X22_0 := X17_0.ext E22
  have S22_0 := S17_0.ext E22
  have V22_0 := V17_0.ext E22
  have V22_1 := V17_1.ext E22
  have V22_2 := V17_2.ext E22
  have z22 : n0 ≤ h22.size := Nat.le_trans z17 E22.1
  have K22 : Keep h0 h22 [a] := K17.ext E22
  have V_b22 : Arv Z h22 b22 k22 .long (32764 : Int32) [] (.long (0 : Int64)) := (Arv.new A22 (by decide)).pad (pad_rep [] (.long (0 : Int64)) 0)
  obtain ⟨cl23, Ar23, q23, S23, M23, H23, G23⟩ := id V22_0
  have hin23 : ¬ ((0 : Int32) < 0 ∨ cl23.slots.size ≤ ((0 : Int32)).toNatClampNeg) := inb_of S23 ⟨by decide, by decide⟩
  obtain ⟨T24, h24, X24, e24, W24, st24⟩ := stR X22 hx hZ e22 Ar23 (j := (0 : Int32)) hin23 rfl (own_stoA Ar23 q23 O10 (Ins.self Ea22)) (g := (mkF m 117 #[.val (.ref a), .val (.long q), .second, .val (.int (3 : Int32)), .val (.int lw), .val (.int (0 : Int32)), .val (.int (32768 : Int32))] [(.ref b22), (.int (0 : Int32)), (.ref b10)])) rfl rfl (hb hby own_d_prog_35_method_1_code_117)
  have V_b10_24 : Arv Z h24 b10 k10 (.array .long) (3 : Int32) [(.ref b22), .null, .null] .null := Arv.set Ar23 q23 S23 M23 H23 G23 rfl W24 0 rfl (Nat.le_of_ble_eq_true rfl)
  have F24_0 := F22_0.other W24 (Or.inl ne_a_b10)
  have F24_1 := F22_1.other W24 (Or.inl ne_a_b10)
  have F24_2 := F22_2.other W24 (Or.inl ne_a_b10)
  have F24_3 := F22_3.other W24 (Or.inl ne_a_b10)
  have X24_0 := X22_0.wr W24
  have X24_1 := Ea22.wr W24
  have S24_0 := S22_0.wr W24
  have ne_b10_b12 : b10 ≠ b12 := Nat.ne_of_lt (Nat.lt_of_lt_of_le (V11_0).lt (Nat.le_of_eq g12.symm))
  have V24_1 := V22_1.other W24 (Ne.symm ne_b10_b12)
  have ne_b10_b16 : b10 ≠ b16 := Nat.ne_of_lt (Nat.lt_of_lt_of_le (V13_0).lt (Nat.le_of_eq g16.symm))
  have V24_2 := V22_2.other W24 (Ne.symm ne_b10_b16)
  have ne_b10_b22 : b10 ≠ b22 := Nat.ne_of_lt (Nat.lt_of_lt_of_le (V17_0).lt (Nat.le_of_eq g22.symm))
  have V24_3 := V_b22.other W24 (Ne.symm ne_b10_b22)
  have z24 : n0 ≤ h24.size := by rw [W24.size]; exact z22
  have K24 : Keep h0 h24 [a] := K22.wr W24 (Or.inr sz_b10)
  have N24 := Fr.snoc X24 N21 g_b10
  have pre25 : ∀ tt_, Steps p.tables e below (T24.setTop (mkF m 118 #[.val (.ref a), .val (.long q), .second, .val (.int (3 : Int32)), .val (.int lw), .val (.int (0 : Int32)), .val (.int (32768 : Int32))] [])) tt_ → Steps p.tables e below (s₁.setTop (entryFrame m #[(.ref a), (.long q)] 7)) tt_ := fun tt_ kk_ => pre18 tt_ (by
    show Steps p.tables e below (T17.setTop (mkF m 78 #[.val (.ref a), .val (.long q), .second, .val (.int (3 : Int32)), .val (.int lw), .val (.int (0 : Int32)), .unset] [])) _
    refine XS.iload X17.here hx rfl (hb hby own_d_prog_35_method_1_code_78) rfl ?_
    refine XS.iloadN X17.here hx rfl (hb hby own_d_prog_35_method_1_code_80) rfl ?_
    refine XS.icmpNo X17.here hx rfl (hb hby own_d_prog_35_method_1_code_81) rfl (tlt ((by decide) : (0 : Int32) < (3 : Int32))).2.1 ?_
    refine XS.iload X17.here hx rfl (hb hby own_d_prog_35_method_1_code_84) rfl ?_
    refine XS.iloadN X17.here hx rfl (hb hby own_d_prog_35_method_1_code_86) rfl ?_
    show Steps p.tables e below (T17.setTop (mkF m 87 #[.val (.ref a), .val (.long q), .second, .val (.int (3 : Int32)), .val (.int lw), .val (.int (0 : Int32)), .unset] [(.int (3 : Int32)), (.int (0 : Int32))])) _
    refine XS.iconst X17.here hx rfl (hb hby own_d_prog_35_method_1_code_87) ?_
    refine XS.isub X17.here hx rfl (hb hby own_d_prog_35_method_1_code_88) rfl ?_
    show Steps p.tables e below (T17.setTop (mkF m 89 #[.val (.ref a), .val (.long q), .second, .val (.int (3 : Int32)), .val (.int lw), .val (.int (0 : Int32)), .unset] [(.int ((3 : Int32) - (1 : Int32))), (.int (0 : Int32))])) _
    rw [fold19]
    show Steps p.tables e below (T17.setTop (mkF m 89 #[.val (.ref a), .val (.long q), .second, .val (.int (3 : Int32)), .val (.int lw), .val (.int (0 : Int32)), .unset] [(.int (2 : Int32)), (.int (0 : Int32))])) _
    refine XS.icmpNo X17.here hx rfl (hb hby own_d_prog_35_method_1_code_89) rfl (tlt ((by decide) : (0 : Int32) < (2 : Int32))).2.1 ?_
    refine X17.ldcInt hx hown (mvT hZ (hw _ (List.mem_of_getElem? (i := 52) rfl))) (g := (mkF m 92 #[.val (.ref a), .val (.long q), .second, .val (.int (3 : Int32)), .val (.int lw), .val (.int (0 : Int32)), .unset] [])) rfl (hb hby own_d_prog_35_method_1_code_92) _ ?_
    refine XS.goto X17.here hx rfl (pc0 := 94) (pc' := 99) rfl (hb hby own_d_prog_35_method_1_code_94) (by decide) (by decide) ?_
    refine XS.istore X17.here hx rfl (hb hby own_d_prog_35_method_1_code_99) rfl (l' := #[.val (.ref a), .val (.long q), .second, .val (.int (3 : Int32)), .val (.int lw), .val (.int (0 : Int32)), .val (.int (32768 : Int32))]) rfl ?_
    show Steps p.tables e below (T17.setTop (mkF m 101 #[.val (.ref a), .val (.long q), .second, .val (.int (3 : Int32)), .val (.int lw), .val (.int (0 : Int32)), .val (.int (32768 : Int32))] [])) _
    refine XS.aloadN X17.here hx rfl (hb hby own_d_prog_35_method_1_code_101) rfl rfl ?_
    refine st20 _ ?_
    refine XS.iload X20.here hx rfl (hb hby own_d_prog_35_method_1_code_105) rfl ?_
    refine XS.iload X20.here hx rfl (hb hby own_d_prog_35_method_1_code_107) rfl ?_
    refine XS.sipush X20.here hx rfl (hb hby own_d_prog_35_method_1_code_109) ?_
    show Steps p.tables e below (T20.setTop (mkF m 112 #[.val (.ref a), .val (.long q), .second, .val (.int (3 : Int32)), .val (.int lw), .val (.int (0 : Int32)), .val (.int (32768 : Int32))] [(.int (32764 : Int32)), (.int (32768 : Int32)), (.int (0 : Int32)), (.ref b10)])) _
    refine st21 _ ?_
    refine st22 _ ?_
    refine st24 _ ?_
    exact kk_)
  obtain ⟨T26, X26, e26, st26⟩ := getF X24 hx hZ hown (host := "") (Or.inl (hw _ (List.mem_of_getElem? (i := 20) rfl))) Via.refl e24 F24_2 (g := (mkF m 119 #[.val (.ref a), .val (.long q), .second, .val (.int (3 : Int32)), .val (.int lw), .val (.int (0 : Int32)), .val (.int (32768 : Int32))] [(.ref a)])) rfl rfl (hb hby own_d_prog_35_method_1_code_119)
  have fold27 : ((32768 : Int32) - (32764 : Int32)) = (4 : Int32) := by decide +kernel
  obtain ⟨_, _, ⟨T28, L28, k28, n28⟩, -, X28, ⟨Lc28, hQ28, l28, y28, z28⟩, st28⟩ := Jvm.LawKit.callS X26 hx (y := (⟨"java/lang/Math", "max", "(II)I"⟩ : MethodName)) hown (mvT hZ (hw _ (List.mem_of_getElem? (i := 30) rfl))) (mvT hZ (hw _ (List.mem_of_getElem? (i := 31) rfl))) (mvT hZ (hw _ (List.mem_of_getElem? (i := 26) rfl))) (mvT hZ (hw _ (List.mem_of_getElem? (i := 32) rfl))) (by decide) (backOf (W := 2) (rmMax l Z a0 hw [] (4 : Int32) (0 : Int32) (4 : Int32) h24 n0 z24 (by decide)) hZ (hw _ (List.mem_of_getElem? (i := 32) rfl)) (hw _ (List.mem_of_getElem? (i := 26) rfl)) (by decide) (by decide)) (g := (mkF m 131 #[.val (.ref a), .val (.long q), .second, .val (.int (3 : Int32)), .val (.int lw), .val (.int (0 : Int32)), .val (.int (32768 : Int32))] [(.int (0 : Int32)), (.int (4 : Int32)), (.int (0 : Int32)), (.ref b12)])) rfl (by rw [hml]; rfl) (argsL := [(.int (4 : Int32)), (.int (0 : Int32))]) (rest := [(.int (0 : Int32)), (.ref b12)]) (lenOf own_pd0 rfl) rfl (by show 2 * 0 + _ ≤ _; exact Nat.le_of_eq rfl) (hb hby own_d_prog_35_method_1_code_131) (fun _ _ => ⟨rfl, e26, (by decide : 4 + 0 ≤ _), (by decide : 32776 + 0 ≤ _)⟩)
  dsimp only [Pt.U, Pt.locs, Pt.cells, Pt.slots] at X28 l28 y28 z28 st28 hQ28
  replace l28 := l28.symm; subst l28 y28 z28
  obtain ⟨rfl, N28q, e28⟩ := hQ28
  have N28 := Fr.app N24 N28q
  obtain ⟨T29, h29, k29, X29, e29, E29, A29, Ea29, st29⟩ := newPE X28 hx hZ (hw _ (List.mem_of_getElem? (i := 28) rfl)) e28 (g := (mkF m 134 #[.val (.ref a), .val (.long q), .second, .val (.int (3 : Int32)), .val (.int lw), .val (.int (0 : Int32)), .val (.int (32768 : Int32))] [(.int (4 : Int32)), (.int (0 : Int32)), (.ref b12)])) rfl (hb hby own_d_prog_35_method_1_code_134) rfl (by decide) (cap := 4) (by decide) (by decide) (by decide) (by decide) (ad := "[J") (by decide +kernel)
  obtain ⟨b29, g29⟩ : ∃ z, z = h24.size := ⟨_, rfl⟩
  rw [← g29] at A29 st29 Ea29
  have g_b29 : n0 ≤ b29 := Nat.le_trans z24 (Nat.le_of_eq g29.symm)
  have sz_b29 : h0.size ≤ b29 := Nat.le_trans K24.1 (Nat.le_of_eq g29.symm)
  have F29_0 := F24_0.ext E29
  have F29_1 := F24_1.ext E29
  have F29_2 := F24_2.ext E29
  have F29_3 := F24_3.ext E29
  have X29_0 := X24_0.ext E29
  have X29_1 := X24_1.ext E29
  have S29_0 := S24_0.ext E29
  have V29_0 := V_b10_24.ext E29
  have V29_1 := V24_1.ext E29
  have V29_2 := V24_2.ext E29
  have V29_3 := V24_3.ext E29
  have z29 : n0 ≤ h29.size := Nat.le_trans z24 E29.1
  have K29 : Keep h0 h29 [a] := K24.ext E29
  have V_b29 : Arv Z h29 b29 k29 .long (4 : Int32) [] (.long (0 : Int64)) := (Arv.new A29 (by decide)).pad (pad_rep [] (.long (0 : Int64)) 0)
  obtain ⟨cl30, Ar30, q30, S30, M30, H30, G30⟩ := id V29_1
  have hin30 : ¬ ((0 : Int32) < 0 ∨ cl30.slots.size ≤ ((0 : Int32)).toNatClampNeg) := inb_of S30 ⟨by decide, by decide⟩
  obtain ⟨T31, h31, X31, e31, W31, st31⟩ := stR X29 hx hZ e29 Ar30 (j := (0 : Int32)) hin30 rfl (own_stoA Ar30 q30 O12 (Ins.self Ea29)) (g := (mkF m 136 #[.val (.ref a), .val (.long q), .second, .val (.int (3 : Int32)), .val (.int lw), .val (.int (0 : Int32)), .val (.int (32768 : Int32))] [(.ref b29), (.int (0 : Int32)), (.ref b12)])) rfl rfl (hb hby own_d_prog_35_method_1_code_136)
  have V_b12_31 : Arv Z h31 b12 k12 (.array .long) (3 : Int32) [(.ref b29), .null, .null] .null := Arv.set Ar30 q30 S30 M30 H30 G30 rfl W31 0 rfl (Nat.le_of_ble_eq_true rfl)
  have F31_0 := F29_0.other W31 (Or.inl ne_a_b12)
  have F31_1 := F29_1.other W31 (Or.inl ne_a_b12)
  have F31_2 := F29_2.other W31 (Or.inl ne_a_b12)
  have F31_3 := F29_3.other W31 (Or.inl ne_a_b12)
  have X31_0 := X29_0.wr W31
  have X31_1 := X29_1.wr W31
  have X31_2 := Ea29.wr W31
  have S31_0 := S29_0.wr W31
  have V31_0 := V29_0.other W31 ne_b10_b12
  have ne_b12_b16 : b12 ≠ b16 := Nat.ne_of_lt (Nat.lt_of_lt_of_le (V13_1).lt (Nat.le_of_eq g16.symm))
  have V31_2 := V29_2.other W31 (Ne.symm ne_b12_b16)
  have ne_b12_b22 : b12 ≠ b22 := Nat.ne_of_lt (Nat.lt_of_lt_of_le (V17_1).lt (Nat.le_of_eq g22.symm))
  have V31_3 := V29_3.other W31 (Ne.symm ne_b12_b22)
  have ne_b12_b29 : b12 ≠ b29 := Nat.ne_of_lt (Nat.lt_of_lt_of_le (V24_1).lt (Nat.le_of_eq g29.symm))
  have V31_4 := V_b29.other W31 (Ne.symm ne_b12_b29)
  have z31 : n0 ≤ h31.size := by rw [W31.size]; exact z29
  have K31 : Keep h0 h31 [a] := K29.wr W31 (Or.inr sz_b12)
  have N31 := Fr.snoc X31 N28 g_b12
  have pre32 : ∀ tt_, Steps p.tables e below (T31.setTop (mkF m 137 #[.val (.ref a), .val (.long q), .second, .val (.int (3 : Int32)), .val (.int lw), .val (.int (0 : Int32)), .val (.int (32768 : Int32))] [])) tt_ → Steps p.tables e below (s₁.setTop (entryFrame m #[(.ref a), (.long q)] 7)) tt_ := fun tt_ kk_ => pre25 tt_ (by
    show Steps p.tables e below (T24.setTop (mkF m 118 #[.val (.ref a), .val (.long q), .second, .val (.int (3 : Int32)), .val (.int lw), .val (.int (0 : Int32)), .val (.int (32768 : Int32))] [])) _
    refine XS.aloadN X24.here hx rfl (hb hby own_d_prog_35_method_1_code_118) rfl rfl ?_
    refine st26 _ ?_
    refine XS.iload X26.here hx rfl (hb hby own_d_prog_35_method_1_code_122) rfl ?_
    show Steps p.tables e below (T26.setTop (mkF m 124 #[.val (.ref a), .val (.long q), .second, .val (.int (3 : Int32)), .val (.int lw), .val (.int (0 : Int32)), .val (.int (32768 : Int32))] [(.int (0 : Int32)), (.ref b12)])) _
    refine XS.iload X26.here hx rfl (hb hby own_d_prog_35_method_1_code_124) rfl ?_
    refine XS.sipush X26.here hx rfl (hb hby own_d_prog_35_method_1_code_126) ?_
    refine XS.isub X26.here hx rfl (hb hby own_d_prog_35_method_1_code_129) rfl ?_
    show Steps p.tables e below (T26.setTop (mkF m 130 #[.val (.ref a), .val (.long q), .second, .val (.int (3 : Int32)), .val (.int lw), .val (.int (0 : Int32)), .val (.int (32768 : Int32))] [(.int ((32768 : Int32) - (32764 : Int32))), (.int (0 : Int32)), (.ref b12)])) _
    rw [fold27]
    show Steps p.tables e below (T26.setTop (mkF m 130 #[.val (.ref a), .val (.long q), .second, .val (.int (3 : Int32)), .val (.int lw), .val (.int (0 : Int32)), .val (.int (32768 : Int32))] [(.int (4 : Int32)), (.int (0 : Int32)), (.ref b12)])) _
    refine XS.iconst X26.here hx rfl (hb hby own_d_prog_35_method_1_code_130) ?_
    show Steps p.tables e below (T26.setTop (mkF m 131 #[.val (.ref a), .val (.long q), .second, .val (.int (3 : Int32)), .val (.int lw), .val (.int (0 : Int32)), .val (.int (32768 : Int32))] [(.int (0 : Int32)), (.int (4 : Int32)), (.int (0 : Int32)), (.ref b12)])) _
    refine st28 _ ?_
    refine st29 _ ?_
    refine st31 _ ?_
    exact kk_)
  obtain ⟨T33, X33, e33, st33⟩ := getF X31 hx hZ hown (host := "") (Or.inl (hw _ (List.mem_of_getElem? (i := 22) rfl))) Via.refl e31 F31_3 (g := (mkF m 138 #[.val (.ref a), .val (.long q), .second, .val (.int (3 : Int32)), .val (.int lw), .val (.int (0 : Int32)), .val (.int (32768 : Int32))] [(.ref a)])) rfl rfl (hb hby own_d_prog_35_method_1_code_138)
  have fold34 : ((2 : Int32) * (0 : Int32)) = (0 : Int32) := by decide +kernel
  obtain ⟨T35, X35, e35, st35⟩ := getF X33 hx hZ hown (host := "") (Or.inl (hw _ (List.mem_of_getElem? (i := 18) rfl))) Via.refl e33 F31_1 (g := (mkF m 146 #[.val (.ref a), .val (.long q), .second, .val (.int (3 : Int32)), .val (.int lw), .val (.int (0 : Int32)), .val (.int (32768 : Int32))] [(.ref a), (.int (0 : Int32)), (.ref b16)])) rfl rfl (hb hby own_d_prog_35_method_1_code_146)
  obtain ⟨cl36, Ar36, q36, S36, M36, H36, G36⟩ := id V31_0
  have hin36 : ¬ ((0 : Int32) < 0 ∨ cl36.slots.size ≤ ((0 : Int32)).toNatClampNeg) := inb_of S36 ⟨by decide, by decide⟩
  have hat36 : cl36.slots[((0 : Int32)).toNatClampNeg]? = some (.ref b22) := Has.at H36 hin36 rfl
  obtain ⟨cl37, Ar37, q37, S37, M37, H37, G37⟩ := id V31_2
  have hin37 : ¬ ((0 : Int32) < 0 ∨ cl37.slots.size ≤ ((0 : Int32)).toNatClampNeg) := inb_of S37 ⟨by decide, by decide⟩
  obtain ⟨T38, h38, X38, e38, W38, st38⟩ := stR X35 hx hZ e35 Ar37 (j := (0 : Int32)) hin37 rfl (own_stoA Ar37 q37 O16 (Ins.self X31_1)) (g := (mkF m 152 #[.val (.ref a), .val (.long q), .second, .val (.int (3 : Int32)), .val (.int lw), .val (.int (0 : Int32)), .val (.int (32768 : Int32))] [(.ref b22), (.int (0 : Int32)), (.ref b16)])) rfl rfl (hb hby own_d_prog_35_method_1_code_152)
  have V_b16_38 : Arv Z h38 b16 k16 (.array .long) (6 : Int32) [(.ref b22), .null, .null, .null, .null, .null] .null := Arv.set Ar37 q37 S37 M37 H37 G37 rfl W38 0 rfl (Nat.le_of_ble_eq_true rfl)
  have F38_0 := F31_0.other W38 (Or.inl ne_a_b16)
  have F38_1 := F31_1.other W38 (Or.inl ne_a_b16)
  have F38_2 := F31_2.other W38 (Or.inl ne_a_b16)
  have F38_3 := F31_3.other W38 (Or.inl ne_a_b16)
  have X38_0 := X31_0.wr W38
  have X38_1 := X31_1.wr W38
  have X38_2 := X31_2.wr W38
  have S38_0 := S31_0.wr W38
  have V38_0 := V31_0.other W38 ne_b10_b16
  have V38_1 := V_b12_31.other W38 ne_b12_b16
  have ne_b16_b22 : b16 ≠ b22 := Nat.ne_of_lt (Nat.lt_of_lt_of_le (V17_2).lt (Nat.le_of_eq g22.symm))
  have V38_3 := V31_3.other W38 (Ne.symm ne_b16_b22)
  have ne_b16_b29 : b16 ≠ b29 := Nat.ne_of_lt (Nat.lt_of_lt_of_le (V24_2).lt (Nat.le_of_eq g29.symm))
  have V38_4 := V31_4.other W38 (Ne.symm ne_b16_b29)
  have z38 : n0 ≤ h38.size := by rw [W38.size]; exact z31
  have K38 : Keep h0 h38 [a] := K31.wr W38 (Or.inr sz_b16)
  have N38 := Fr.snoc X38 N31 g_b16
  have pre39 : ∀ tt_, Steps p.tables e below (T38.setTop (mkF m 153 #[.val (.ref a), .val (.long q), .second, .val (.int (3 : Int32)), .val (.int lw), .val (.int (0 : Int32)), .val (.int (32768 : Int32))] [])) tt_ → Steps p.tables e below (s₁.setTop (entryFrame m #[(.ref a), (.long q)] 7)) tt_ := fun tt_ kk_ => pre32 tt_ (by
    show Steps p.tables e below (T31.setTop (mkF m 137 #[.val (.ref a), .val (.long q), .second, .val (.int (3 : Int32)), .val (.int lw), .val (.int (0 : Int32)), .val (.int (32768 : Int32))] [])) _
    refine XS.aloadN X31.here hx rfl (hb hby own_d_prog_35_method_1_code_137) rfl rfl ?_
    refine st33 _ ?_
    refine XS.iconst X33.here hx rfl (hb hby own_d_prog_35_method_1_code_141) ?_
    show Steps p.tables e below (T33.setTop (mkF m 142 #[.val (.ref a), .val (.long q), .second, .val (.int (3 : Int32)), .val (.int lw), .val (.int (0 : Int32)), .val (.int (32768 : Int32))] [(.int (2 : Int32)), (.ref b16)])) _
    refine XS.iload X33.here hx rfl (hb hby own_d_prog_35_method_1_code_142) rfl ?_
    refine XS.imul X33.here hx rfl (hb hby own_d_prog_35_method_1_code_144) rfl ?_
    show Steps p.tables e below (T33.setTop (mkF m 145 #[.val (.ref a), .val (.long q), .second, .val (.int (3 : Int32)), .val (.int lw), .val (.int (0 : Int32)), .val (.int (32768 : Int32))] [(.int ((2 : Int32) * (0 : Int32))), (.ref b16)])) _
    rw [fold34]
    show Steps p.tables e below (T33.setTop (mkF m 145 #[.val (.ref a), .val (.long q), .second, .val (.int (3 : Int32)), .val (.int lw), .val (.int (0 : Int32)), .val (.int (32768 : Int32))] [(.int (0 : Int32)), (.ref b16)])) _
    refine XS.aloadN X33.here hx rfl (hb hby own_d_prog_35_method_1_code_145) rfl rfl ?_
    refine st35 _ ?_
    refine XS.iload X35.here hx rfl (hb hby own_d_prog_35_method_1_code_149) rfl ?_
    refine X35.aaload hx (j := (0 : Int32)) (v := (.ref b22)) (by rw [e35]; exact Ar36.1) (State.isArrayOf_alike hZ.alike Ar36.2.1) rfl Ar36.2.2 hin36 hat36 (g := (mkF m 151 #[.val (.ref a), .val (.long q), .second, .val (.int (3 : Int32)), .val (.int lw), .val (.int (0 : Int32)), .val (.int (32768 : Int32))] [(.int (0 : Int32)), (.ref b10), (.int (0 : Int32)), (.ref b16)])) rfl rfl (hb hby own_d_prog_35_method_1_code_151) _ ?_
    refine st38 _ ?_
    exact kk_)
  obtain ⟨T40, X40, e40, st40⟩ := getF X38 hx hZ hown (host := "") (Or.inl (hw _ (List.mem_of_getElem? (i := 22) rfl))) Via.refl e38 F38_3 (g := (mkF m 162 #[.val (.ref a), .val (.long q), .second, .val (.int (3 : Int32)), .val (.int lw), .val (.int (0 : Int32)), .val (.int (32768 : Int32))] [(.ref a)])) rfl rfl (hb hby own_d_prog_35_method_1_code_162)
  have fold41 : ((2 : Int32) * (0 : Int32)) = (0 : Int32) := by decide +kernel
  have fold42 : ((0 : Int32) + (1 : Int32)) = (1 : Int32) := by decide +kernel
  obtain ⟨T43, X43, e43, st43⟩ := getF X40 hx hZ hown (host := "") (Or.inl (hw _ (List.mem_of_getElem? (i := 20) rfl))) Via.refl e40 F38_2 (g := (mkF m 172 #[.val (.ref a), .val (.long q), .second, .val (.int (3 : Int32)), .val (.int lw), .val (.int (0 : Int32)), .val (.int (32768 : Int32))] [(.ref a), (.int (1 : Int32)), (.ref b16)])) rfl rfl (hb hby own_d_prog_35_method_1_code_172)
  obtain ⟨cl44, Ar44, q44, S44, M44, H44, G44⟩ := id V38_1
  have hin44 : ¬ ((0 : Int32) < 0 ∨ cl44.slots.size ≤ ((0 : Int32)).toNatClampNeg) := inb_of S44 ⟨by decide, by decide⟩
  have hat44 : cl44.slots[((0 : Int32)).toNatClampNeg]? = some (.ref b29) := Has.at H44 hin44 rfl
  obtain ⟨cl45, Ar45, q45, S45, M45, H45, G45⟩ := id V_b16_38
  have hin45 : ¬ ((1 : Int32) < 0 ∨ cl45.slots.size ≤ ((1 : Int32)).toNatClampNeg) := inb_of S45 ⟨by decide, by decide⟩
  obtain ⟨T46, h46, X46, e46, W46, st46⟩ := stR X43 hx hZ e43 Ar45 (j := (1 : Int32)) hin45 rfl (own_stoA Ar45 q45 O16 (Ins.self X38_2)) (g := (mkF m 178 #[.val (.ref a), .val (.long q), .second, .val (.int (3 : Int32)), .val (.int lw), .val (.int (0 : Int32)), .val (.int (32768 : Int32))] [(.ref b29), (.int (1 : Int32)), (.ref b16)])) rfl rfl (hb hby own_d_prog_35_method_1_code_178)
  have V_b16_46 : Arv Z h46 b16 k16 (.array .long) (6 : Int32) [(.ref b22), (.ref b29), .null, .null, .null, .null] .null := Arv.set Ar45 q45 S45 M45 H45 G45 rfl W46 1 rfl (Nat.le_of_ble_eq_true rfl)
  have F46_0 := F38_0.other W46 (Or.inl ne_a_b16)
  have F46_1 := F38_1.other W46 (Or.inl ne_a_b16)
  have F46_2 := F38_2.other W46 (Or.inl ne_a_b16)
  have F46_3 := F38_3.other W46 (Or.inl ne_a_b16)
  have X46_0 := X38_0.wr W46
  have X46_1 := X38_1.wr W46
  have X46_2 := X38_2.wr W46
  have S46_0 := S38_0.wr W46
  have V46_0 := V38_0.other W46 ne_b10_b16
  have V46_1 := V38_1.other W46 ne_b12_b16
  have V46_3 := V38_3.other W46 (Ne.symm ne_b16_b22)
  have V46_4 := V38_4.other W46 (Ne.symm ne_b16_b29)
  have z46 : n0 ≤ h46.size := by rw [W46.size]; exact z38
  have K46 : Keep h0 h46 [a] := K38.wr W46 (Or.inr sz_b16)
  have N46 := Fr.snoc X46 N38 g_b16
  have fold47 : ((0 : Int32) + (1 : Int32)) = (1 : Int32) := by decide +kernel
  have pre48 : ∀ tt_, Steps p.tables e below (T46.setTop (mkF m 78 #[.val (.ref a), .val (.long q), .second, .val (.int (3 : Int32)), .val (.int lw), .val (.int (1 : Int32)), .val (.int (32768 : Int32))] [])) tt_ → Steps p.tables e below (s₁.setTop (entryFrame m #[(.ref a), (.long q)] 7)) tt_ := fun tt_ kk_ => pre39 tt_ (by
    show Steps p.tables e below (T38.setTop (mkF m 153 #[.val (.ref a), .val (.long q), .second, .val (.int (3 : Int32)), .val (.int lw), .val (.int (0 : Int32)), .val (.int (32768 : Int32))] [])) _
    refine XS.iload X38.here hx rfl (hb hby own_d_prog_35_method_1_code_153) rfl ?_
    show Steps p.tables e below (T38.setTop (mkF m 155 #[.val (.ref a), .val (.long q), .second, .val (.int (3 : Int32)), .val (.int lw), .val (.int (0 : Int32)), .val (.int (32768 : Int32))] [(.int (32768 : Int32))])) _
    refine XS.sipush X38.here hx rfl (hb hby own_d_prog_35_method_1_code_155) ?_
    refine XS.icmpNo X38.here hx rfl (hb hby own_d_prog_35_method_1_code_158) rfl (tlt ((by decide) : (32764 : Int32) < (32768 : Int32))).2.2.2 ?_
    refine XS.aloadN X38.here hx rfl (hb hby own_d_prog_35_method_1_code_161) rfl rfl ?_
    refine st40 _ ?_
    refine XS.iconst X40.here hx rfl (hb hby own_d_prog_35_method_1_code_165) ?_
    refine XS.iload X40.here hx rfl (hb hby own_d_prog_35_method_1_code_166) rfl ?_
    refine XS.imul X40.here hx rfl (hb hby own_d_prog_35_method_1_code_168) rfl ?_
    show Steps p.tables e below (T40.setTop (mkF m 169 #[.val (.ref a), .val (.long q), .second, .val (.int (3 : Int32)), .val (.int lw), .val (.int (0 : Int32)), .val (.int (32768 : Int32))] [(.int ((2 : Int32) * (0 : Int32))), (.ref b16)])) _
    rw [fold41]
    show Steps p.tables e below (T40.setTop (mkF m 169 #[.val (.ref a), .val (.long q), .second, .val (.int (3 : Int32)), .val (.int lw), .val (.int (0 : Int32)), .val (.int (32768 : Int32))] [(.int (0 : Int32)), (.ref b16)])) _
    refine XS.iconst X40.here hx rfl (hb hby own_d_prog_35_method_1_code_169) ?_
    refine XS.iadd X40.here hx rfl (hb hby own_d_prog_35_method_1_code_170) rfl ?_
    show Steps p.tables e below (T40.setTop (mkF m 171 #[.val (.ref a), .val (.long q), .second, .val (.int (3 : Int32)), .val (.int lw), .val (.int (0 : Int32)), .val (.int (32768 : Int32))] [(.int ((0 : Int32) + (1 : Int32))), (.ref b16)])) _
    rw [fold42]
    show Steps p.tables e below (T40.setTop (mkF m 171 #[.val (.ref a), .val (.long q), .second, .val (.int (3 : Int32)), .val (.int lw), .val (.int (0 : Int32)), .val (.int (32768 : Int32))] [(.int (1 : Int32)), (.ref b16)])) _
    refine XS.aloadN X40.here hx rfl (hb hby own_d_prog_35_method_1_code_171) rfl rfl ?_
    refine st43 _ ?_
    refine XS.iload X43.here hx rfl (hb hby own_d_prog_35_method_1_code_175) rfl ?_
    refine X43.aaload hx (j := (0 : Int32)) (v := (.ref b29)) (by rw [e43]; exact Ar44.1) (State.isArrayOf_alike hZ.alike Ar44.2.1) rfl Ar44.2.2 hin44 hat44 (g := (mkF m 177 #[.val (.ref a), .val (.long q), .second, .val (.int (3 : Int32)), .val (.int lw), .val (.int (0 : Int32)), .val (.int (32768 : Int32))] [(.int (0 : Int32)), (.ref b12), (.int (1 : Int32)), (.ref b16)])) rfl rfl (hb hby own_d_prog_35_method_1_code_177) _ ?_
    refine st46 _ ?_
    refine XS.iinc X46.here hx rfl (hb hby own_d_prog_35_method_1_code_179) rfl (l' := #[.val (.ref a), .val (.long q), .second, .val (.int (3 : Int32)), .val (.int lw), .val (.int ((0 : Int32) + (1 : Int32))), .val (.int (32768 : Int32))]) rfl ?_
    show Steps p.tables e below (T46.setTop (mkF m 182 #[.val (.ref a), .val (.long q), .second, .val (.int (3 : Int32)), .val (.int lw), .val (.int ((0 : Int32) + (1 : Int32))), .val (.int (32768 : Int32))] [])) _
    rw [fold47]
    show Steps p.tables e below (T46.setTop (mkF m 182 #[.val (.ref a), .val (.long q), .second, .val (.int (3 : Int32)), .val (.int lw), .val (.int (1 : Int32)), .val (.int (32768 : Int32))] [])) _
    refine XS.goto X46.here hx rfl (pc0 := 182) (pc' := 78) rfl (hb hby own_d_prog_35_method_1_code_182) (by decide) (by decide) ?_
    exact kk_)
  have fold49 : ((3 : Int32) - (1 : Int32)) = (2 : Int32) := by decide +kernel
  obtain ⟨T50, X50, e50, st50⟩ := getF X46 hx hZ hown (host := "") (Or.inl (hw _ (List.mem_of_getElem? (i := 18) rfl))) Via.refl e46 F46_1 (g := (mkF m 102 #[.val (.ref a), .val (.long q), .second, .val (.int (3 : Int32)), .val (.int lw), .val (.int (1 : Int32)), .val (.int (32768 : Int32))] [(.ref a)])) rfl rfl (hb hby own_d_prog_35_method_1_code_102)
  obtain ⟨_, _, ⟨T51, L51, k51, n51⟩, -, X51, ⟨Lc51, hQ51, l51, y51, z51⟩, st51⟩ := Jvm.LawKit.callS X50 hx (y := (⟨"java/lang/Math", "min", "(II)I"⟩ : MethodName)) hown (mvT hZ (hw _ (List.mem_of_getElem? (i := 24) rfl))) (mvT hZ (hw _ (List.mem_of_getElem? (i := 25) rfl))) (mvT hZ (hw _ (List.mem_of_getElem? (i := 26) rfl))) (mvT hZ (hw _ (List.mem_of_getElem? (i := 27) rfl))) (by decide) (backOf (W := 2) (rmMin l Z a0 hw [] (32768 : Int32) (32764 : Int32) (32764 : Int32) h46 n0 z46 (by decide)) hZ (hw _ (List.mem_of_getElem? (i := 27) rfl)) (hw _ (List.mem_of_getElem? (i := 26) rfl)) (by decide) (by decide)) (g := (mkF m 112 #[.val (.ref a), .val (.long q), .second, .val (.int (3 : Int32)), .val (.int lw), .val (.int (1 : Int32)), .val (.int (32768 : Int32))] [(.int (32764 : Int32)), (.int (32768 : Int32)), (.int (1 : Int32)), (.ref b10)])) rfl (by rw [hml]; rfl) (argsL := [(.int (32768 : Int32)), (.int (32764 : Int32))]) (rest := [(.int (1 : Int32)), (.ref b10)]) (lenOf own_pd0 rfl) rfl (by show 2 * 0 + _ ≤ _; exact Nat.le_of_eq rfl) (hb hby own_d_prog_35_method_1_code_112) (fun _ _ => ⟨rfl, e50, (by decide : 5 + 0 ≤ _), (by decide : 32780 + 0 ≤ _)⟩)
  dsimp only [Pt.U, Pt.locs, Pt.cells, Pt.slots] at X51 l51 y51 z51 st51 hQ51
  replace l51 := l51.symm; subst l51 y51 z51
  obtain ⟨rfl, N51q, e51⟩ := hQ51
  have N51 := Fr.app N46 N51q
  obtain ⟨T52, h52, k52, X52, e52, E52, A52, Ea52, st52⟩ := newPE X51 hx hZ (hw _ (List.mem_of_getElem? (i := 28) rfl)) e51 (g := (mkF m 115 #[.val (.ref a), .val (.long q), .second, .val (.int (3 : Int32)), .val (.int lw), .val (.int (1 : Int32)), .val (.int (32768 : Int32))] [(.int (32764 : Int32)), (.int (1 : Int32)), (.ref b10)])) rfl (hb hby own_d_prog_35_method_1_code_115) rfl (by decide) (cap := 32764) (by decide) (by decide) (by decide) (by decide) (ad := "[J") (by decide +kernel)
  obtain ⟨b52, g52⟩ : ∃ z, z = h46.size := ⟨_, rfl⟩
  rw [← g52] at A52 st52 Ea52
  have g_b52 : n0 ≤ b52 := Nat.le_trans z46 (Nat.le_of_eq g52.symm)
  have sz_b52 : h0.size ≤ b52 := Nat.le_trans K46.1 (Nat.le_of_eq g52.symm)
  have F52_0 := F46_1.ext E52
  have F52_1 := F46_2.ext E52
  have F52_2 := F46_3.ext E52
  have X52_0 := X46_0.ext E52
  have S52_0 := S46_0.ext E52
  have V52_0 := V46_0.ext E52
  have V52_1 := V46_1.ext E52
  have V52_2 := V_b16_46.ext E52
  have V52_3 := V46_3.ext E52
  have V52_4 := V46_4.ext E52
  have z52 : n0 ≤ h52.size := Nat.le_trans z46 E52.1
  have K52 : Keep h0 h52 [a] := K46.ext E52
  have V_b52 : Arv Z h52 b52 k52 .long (32764 : Int32) [] (.long (0 : Int64)) := (Arv.new A52 (by decide)).pad (pad_rep [] (.long (0 : Int64)) 0)
  obtain ⟨cl53, Ar53, q53, S53, M53, H53, G53⟩ := id V52_0
  have hin53 : ¬ ((1 : Int32) < 0 ∨ cl53.slots.size ≤ ((1 : Int32)).toNatClampNeg) := inb_of S53 ⟨by decide, by decide⟩
  obtain ⟨T54, h54, X54, e54, W54, st54⟩ := stR X52 hx hZ e52 Ar53 (j := (1 : Int32)) hin53 rfl (own_stoA Ar53 q53 O10 (Ins.self Ea52)) (g := (mkF m 117 #[.val (.ref a), .val (.long q), .second, .val (.int (3 : Int32)), .val (.int lw), .val (.int (1 : Int32)), .val (.int (32768 : Int32))] [(.ref b52), (.int (1 : Int32)), (.ref b10)])) rfl rfl (hb hby own_d_prog_35_method_1_code_117)
  have V_b10_54 : Arv Z h54 b10 k10 (.array .long) (3 : Int32) [(.ref b22), (.ref b52), .null] .null := Arv.set Ar53 q53 S53 M53 H53 G53 rfl W54 1 rfl (Nat.le_of_ble_eq_true rfl)
  have F54_0 := F52_0.other W54 (Or.inl ne_a_b10)
  have F54_1 := F52_1.other W54 (Or.inl ne_a_b10)
  have F54_2 := F52_2.other W54 (Or.inl ne_a_b10)
  have X54_0 := X52_0.wr W54
  have X54_1 := Ea52.wr W54
  have S54_0 := S52_0.wr W54
  have V54_1 := V52_1.other W54 (Ne.symm ne_b10_b12)
  have V54_2 := V52_2.other W54 (Ne.symm ne_b10_b16)
  have V54_3 := V52_3.other W54 (Ne.symm ne_b10_b22)
  have ne_b10_b29 : b10 ≠ b29 := Nat.ne_of_lt (Nat.lt_of_lt_of_le (V_b10_24).lt (Nat.le_of_eq g29.symm))
  have V54_4 := V52_4.other W54 (Ne.symm ne_b10_b29)
  have ne_b10_b52 : b10 ≠ b52 := Nat.ne_of_lt (Nat.lt_of_lt_of_le (V46_0).lt (Nat.le_of_eq g52.symm))
  have V54_5 := V_b52.other W54 (Ne.symm ne_b10_b52)
  have z54 : n0 ≤ h54.size := by rw [W54.size]; exact z52
  have K54 : Keep h0 h54 [a] := K52.wr W54 (Or.inr sz_b10)
  have N54 := Fr.snoc X54 N51 g_b10
  have pre55 : ∀ tt_, Steps p.tables e below (T54.setTop (mkF m 118 #[.val (.ref a), .val (.long q), .second, .val (.int (3 : Int32)), .val (.int lw), .val (.int (1 : Int32)), .val (.int (32768 : Int32))] [])) tt_ → Steps p.tables e below (s₁.setTop (entryFrame m #[(.ref a), (.long q)] 7)) tt_ := fun tt_ kk_ => pre48 tt_ (by
    show Steps p.tables e below (T46.setTop (mkF m 78 #[.val (.ref a), .val (.long q), .second, .val (.int (3 : Int32)), .val (.int lw), .val (.int (1 : Int32)), .val (.int (32768 : Int32))] [])) _
    refine XS.iload X46.here hx rfl (hb hby own_d_prog_35_method_1_code_78) rfl ?_
    refine XS.iloadN X46.here hx rfl (hb hby own_d_prog_35_method_1_code_80) rfl ?_
    refine XS.icmpNo X46.here hx rfl (hb hby own_d_prog_35_method_1_code_81) rfl (tlt ((by decide) : (1 : Int32) < (3 : Int32))).2.1 ?_
    refine XS.iload X46.here hx rfl (hb hby own_d_prog_35_method_1_code_84) rfl ?_
    refine XS.iloadN X46.here hx rfl (hb hby own_d_prog_35_method_1_code_86) rfl ?_
    show Steps p.tables e below (T46.setTop (mkF m 87 #[.val (.ref a), .val (.long q), .second, .val (.int (3 : Int32)), .val (.int lw), .val (.int (1 : Int32)), .val (.int (32768 : Int32))] [(.int (3 : Int32)), (.int (1 : Int32))])) _
    refine XS.iconst X46.here hx rfl (hb hby own_d_prog_35_method_1_code_87) ?_
    refine XS.isub X46.here hx rfl (hb hby own_d_prog_35_method_1_code_88) rfl ?_
    show Steps p.tables e below (T46.setTop (mkF m 89 #[.val (.ref a), .val (.long q), .second, .val (.int (3 : Int32)), .val (.int lw), .val (.int (1 : Int32)), .val (.int (32768 : Int32))] [(.int ((3 : Int32) - (1 : Int32))), (.int (1 : Int32))])) _
    rw [fold49]
    show Steps p.tables e below (T46.setTop (mkF m 89 #[.val (.ref a), .val (.long q), .second, .val (.int (3 : Int32)), .val (.int lw), .val (.int (1 : Int32)), .val (.int (32768 : Int32))] [(.int (2 : Int32)), (.int (1 : Int32))])) _
    refine XS.icmpNo X46.here hx rfl (hb hby own_d_prog_35_method_1_code_89) rfl (tlt ((by decide) : (1 : Int32) < (2 : Int32))).2.1 ?_
    refine X46.ldcInt hx hown (mvT hZ (hw _ (List.mem_of_getElem? (i := 52) rfl))) (g := (mkF m 92 #[.val (.ref a), .val (.long q), .second, .val (.int (3 : Int32)), .val (.int lw), .val (.int (1 : Int32)), .val (.int (32768 : Int32))] [])) rfl (hb hby own_d_prog_35_method_1_code_92) _ ?_
    refine XS.goto X46.here hx rfl (pc0 := 94) (pc' := 99) rfl (hb hby own_d_prog_35_method_1_code_94) (by decide) (by decide) ?_
    refine XS.istore X46.here hx rfl (hb hby own_d_prog_35_method_1_code_99) rfl (l' := #[.val (.ref a), .val (.long q), .second, .val (.int (3 : Int32)), .val (.int lw), .val (.int (1 : Int32)), .val (.int (32768 : Int32))]) rfl ?_
    show Steps p.tables e below (T46.setTop (mkF m 101 #[.val (.ref a), .val (.long q), .second, .val (.int (3 : Int32)), .val (.int lw), .val (.int (1 : Int32)), .val (.int (32768 : Int32))] [])) _
    refine XS.aloadN X46.here hx rfl (hb hby own_d_prog_35_method_1_code_101) rfl rfl ?_
    refine st50 _ ?_
    refine XS.iload X50.here hx rfl (hb hby own_d_prog_35_method_1_code_105) rfl ?_
    refine XS.iload X50.here hx rfl (hb hby own_d_prog_35_method_1_code_107) rfl ?_
    refine XS.sipush X50.here hx rfl (hb hby own_d_prog_35_method_1_code_109) ?_
    show Steps p.tables e below (T50.setTop (mkF m 112 #[.val (.ref a), .val (.long q), .second, .val (.int (3 : Int32)), .val (.int lw), .val (.int (1 : Int32)), .val (.int (32768 : Int32))] [(.int (32764 : Int32)), (.int (32768 : Int32)), (.int (1 : Int32)), (.ref b10)])) _
    refine st51 _ ?_
    refine st52 _ ?_
    refine st54 _ ?_
    exact kk_)
  obtain ⟨T56, X56, e56, st56⟩ := getF X54 hx hZ hown (host := "") (Or.inl (hw _ (List.mem_of_getElem? (i := 20) rfl))) Via.refl e54 F54_1 (g := (mkF m 119 #[.val (.ref a), .val (.long q), .second, .val (.int (3 : Int32)), .val (.int lw), .val (.int (1 : Int32)), .val (.int (32768 : Int32))] [(.ref a)])) rfl rfl (hb hby own_d_prog_35_method_1_code_119)
  have fold57 : ((32768 : Int32) - (32764 : Int32)) = (4 : Int32) := by decide +kernel
  obtain ⟨_, _, ⟨T58, L58, k58, n58⟩, -, X58, ⟨Lc58, hQ58, l58, y58, z58⟩, st58⟩ := Jvm.LawKit.callS X56 hx (y := (⟨"java/lang/Math", "max", "(II)I"⟩ : MethodName)) hown (mvT hZ (hw _ (List.mem_of_getElem? (i := 30) rfl))) (mvT hZ (hw _ (List.mem_of_getElem? (i := 31) rfl))) (mvT hZ (hw _ (List.mem_of_getElem? (i := 26) rfl))) (mvT hZ (hw _ (List.mem_of_getElem? (i := 32) rfl))) (by decide) (backOf (W := 2) (rmMax l Z a0 hw [] (4 : Int32) (0 : Int32) (4 : Int32) h54 n0 z54 (by decide)) hZ (hw _ (List.mem_of_getElem? (i := 32) rfl)) (hw _ (List.mem_of_getElem? (i := 26) rfl)) (by decide) (by decide)) (g := (mkF m 131 #[.val (.ref a), .val (.long q), .second, .val (.int (3 : Int32)), .val (.int lw), .val (.int (1 : Int32)), .val (.int (32768 : Int32))] [(.int (0 : Int32)), (.int (4 : Int32)), (.int (1 : Int32)), (.ref b12)])) rfl (by rw [hml]; rfl) (argsL := [(.int (4 : Int32)), (.int (0 : Int32))]) (rest := [(.int (1 : Int32)), (.ref b12)]) (lenOf own_pd0 rfl) rfl (by show 2 * 0 + _ ≤ _; exact Nat.le_of_eq rfl) (hb hby own_d_prog_35_method_1_code_131) (fun _ _ => ⟨rfl, e56, (by decide : 6 + 0 ≤ _), (by decide : 65544 + 0 ≤ _)⟩)
  dsimp only [Pt.U, Pt.locs, Pt.cells, Pt.slots] at X58 l58 y58 z58 st58 hQ58
  replace l58 := l58.symm; subst l58 y58 z58
  obtain ⟨rfl, N58q, e58⟩ := hQ58
  have N58 := Fr.app N54 N58q
  obtain ⟨T59, h59, k59, X59, e59, E59, A59, Ea59, st59⟩ := newPE X58 hx hZ (hw _ (List.mem_of_getElem? (i := 28) rfl)) e58 (g := (mkF m 134 #[.val (.ref a), .val (.long q), .second, .val (.int (3 : Int32)), .val (.int lw), .val (.int (1 : Int32)), .val (.int (32768 : Int32))] [(.int (4 : Int32)), (.int (1 : Int32)), (.ref b12)])) rfl (hb hby own_d_prog_35_method_1_code_134) rfl (by decide) (cap := 4) (by decide) (by decide) (by decide) (by decide) (ad := "[J") (by decide +kernel)
  obtain ⟨b59, g59⟩ : ∃ z, z = h54.size := ⟨_, rfl⟩
  rw [← g59] at A59 st59 Ea59
  have g_b59 : n0 ≤ b59 := Nat.le_trans z54 (Nat.le_of_eq g59.symm)
  have sz_b59 : h0.size ≤ b59 := Nat.le_trans K54.1 (Nat.le_of_eq g59.symm)
  have F59_0 := F54_0.ext E59
  have F59_1 := F54_1.ext E59
  have F59_2 := F54_2.ext E59
  have X59_0 := X54_0.ext E59
  have X59_1 := X54_1.ext E59
  have S59_0 := S54_0.ext E59
  have V59_0 := V_b10_54.ext E59
  have V59_1 := V54_1.ext E59
  have V59_2 := V54_2.ext E59
  have V59_3 := V54_3.ext E59
  have V59_4 := V54_4.ext E59
  have V59_5 := V54_5.ext E59
  have z59 : n0 ≤ h59.size := Nat.le_trans z54 E59.1
  have K59 : Keep h0 h59 [a] := K54.ext E59
  have V_b59 : Arv Z h59 b59 k59 .long (4 : Int32) [] (.long (0 : Int64)) := (Arv.new A59 (by decide)).pad (pad_rep [] (.long (0 : Int64)) 0)
  obtain ⟨cl60, Ar60, q60, S60, M60, H60, G60⟩ := id V59_1
  have hin60 : ¬ ((1 : Int32) < 0 ∨ cl60.slots.size ≤ ((1 : Int32)).toNatClampNeg) := inb_of S60 ⟨by decide, by decide⟩
  obtain ⟨T61, h61, X61, e61, W61, st61⟩ := stR X59 hx hZ e59 Ar60 (j := (1 : Int32)) hin60 rfl (own_stoA Ar60 q60 O12 (Ins.self Ea59)) (g := (mkF m 136 #[.val (.ref a), .val (.long q), .second, .val (.int (3 : Int32)), .val (.int lw), .val (.int (1 : Int32)), .val (.int (32768 : Int32))] [(.ref b59), (.int (1 : Int32)), (.ref b12)])) rfl rfl (hb hby own_d_prog_35_method_1_code_136)
  have V_b12_61 : Arv Z h61 b12 k12 (.array .long) (3 : Int32) [(.ref b29), (.ref b59), .null] .null := Arv.set Ar60 q60 S60 M60 H60 G60 rfl W61 1 rfl (Nat.le_of_ble_eq_true rfl)
  have F61_0 := F59_0.other W61 (Or.inl ne_a_b12)
  have F61_1 := F59_1.other W61 (Or.inl ne_a_b12)
  have F61_2 := F59_2.other W61 (Or.inl ne_a_b12)
  have X61_0 := X59_0.wr W61
  have X61_1 := X59_1.wr W61
  have X61_2 := Ea59.wr W61
  have S61_0 := S59_0.wr W61
  have V61_0 := V59_0.other W61 ne_b10_b12
  have V61_2 := V59_2.other W61 (Ne.symm ne_b12_b16)
  have V61_3 := V59_3.other W61 (Ne.symm ne_b12_b22)
  have V61_4 := V59_4.other W61 (Ne.symm ne_b12_b29)
  have ne_b12_b52 : b12 ≠ b52 := Nat.ne_of_lt (Nat.lt_of_lt_of_le (V46_1).lt (Nat.le_of_eq g52.symm))
  have V61_5 := V59_5.other W61 (Ne.symm ne_b12_b52)
  have ne_b12_b59 : b12 ≠ b59 := Nat.ne_of_lt (Nat.lt_of_lt_of_le (V54_1).lt (Nat.le_of_eq g59.symm))
  have V61_6 := V_b59.other W61 (Ne.symm ne_b12_b59)
  have z61 : n0 ≤ h61.size := by rw [W61.size]; exact z59
  have K61 : Keep h0 h61 [a] := K59.wr W61 (Or.inr sz_b12)
  have N61 := Fr.snoc X61 N58 g_b12
  have pre62 : ∀ tt_, Steps p.tables e below (T61.setTop (mkF m 137 #[.val (.ref a), .val (.long q), .second, .val (.int (3 : Int32)), .val (.int lw), .val (.int (1 : Int32)), .val (.int (32768 : Int32))] [])) tt_ → Steps p.tables e below (s₁.setTop (entryFrame m #[(.ref a), (.long q)] 7)) tt_ := fun tt_ kk_ => pre55 tt_ (by
    show Steps p.tables e below (T54.setTop (mkF m 118 #[.val (.ref a), .val (.long q), .second, .val (.int (3 : Int32)), .val (.int lw), .val (.int (1 : Int32)), .val (.int (32768 : Int32))] [])) _
    refine XS.aloadN X54.here hx rfl (hb hby own_d_prog_35_method_1_code_118) rfl rfl ?_
    refine st56 _ ?_
    refine XS.iload X56.here hx rfl (hb hby own_d_prog_35_method_1_code_122) rfl ?_
    show Steps p.tables e below (T56.setTop (mkF m 124 #[.val (.ref a), .val (.long q), .second, .val (.int (3 : Int32)), .val (.int lw), .val (.int (1 : Int32)), .val (.int (32768 : Int32))] [(.int (1 : Int32)), (.ref b12)])) _
    refine XS.iload X56.here hx rfl (hb hby own_d_prog_35_method_1_code_124) rfl ?_
    refine XS.sipush X56.here hx rfl (hb hby own_d_prog_35_method_1_code_126) ?_
    refine XS.isub X56.here hx rfl (hb hby own_d_prog_35_method_1_code_129) rfl ?_
    show Steps p.tables e below (T56.setTop (mkF m 130 #[.val (.ref a), .val (.long q), .second, .val (.int (3 : Int32)), .val (.int lw), .val (.int (1 : Int32)), .val (.int (32768 : Int32))] [(.int ((32768 : Int32) - (32764 : Int32))), (.int (1 : Int32)), (.ref b12)])) _
    rw [fold57]
    show Steps p.tables e below (T56.setTop (mkF m 130 #[.val (.ref a), .val (.long q), .second, .val (.int (3 : Int32)), .val (.int lw), .val (.int (1 : Int32)), .val (.int (32768 : Int32))] [(.int (4 : Int32)), (.int (1 : Int32)), (.ref b12)])) _
    refine XS.iconst X56.here hx rfl (hb hby own_d_prog_35_method_1_code_130) ?_
    show Steps p.tables e below (T56.setTop (mkF m 131 #[.val (.ref a), .val (.long q), .second, .val (.int (3 : Int32)), .val (.int lw), .val (.int (1 : Int32)), .val (.int (32768 : Int32))] [(.int (0 : Int32)), (.int (4 : Int32)), (.int (1 : Int32)), (.ref b12)])) _
    refine st58 _ ?_
    refine st59 _ ?_
    refine st61 _ ?_
    exact kk_)
  obtain ⟨T63, X63, e63, st63⟩ := getF X61 hx hZ hown (host := "") (Or.inl (hw _ (List.mem_of_getElem? (i := 22) rfl))) Via.refl e61 F61_2 (g := (mkF m 138 #[.val (.ref a), .val (.long q), .second, .val (.int (3 : Int32)), .val (.int lw), .val (.int (1 : Int32)), .val (.int (32768 : Int32))] [(.ref a)])) rfl rfl (hb hby own_d_prog_35_method_1_code_138)
  have fold64 : ((2 : Int32) * (1 : Int32)) = (2 : Int32) := by decide +kernel
  obtain ⟨T65, X65, e65, st65⟩ := getF X63 hx hZ hown (host := "") (Or.inl (hw _ (List.mem_of_getElem? (i := 18) rfl))) Via.refl e63 F61_0 (g := (mkF m 146 #[.val (.ref a), .val (.long q), .second, .val (.int (3 : Int32)), .val (.int lw), .val (.int (1 : Int32)), .val (.int (32768 : Int32))] [(.ref a), (.int (2 : Int32)), (.ref b16)])) rfl rfl (hb hby own_d_prog_35_method_1_code_146)
  obtain ⟨cl66, Ar66, q66, S66, M66, H66, G66⟩ := id V61_0
  have hin66 : ¬ ((1 : Int32) < 0 ∨ cl66.slots.size ≤ ((1 : Int32)).toNatClampNeg) := inb_of S66 ⟨by decide, by decide⟩
  have hat66 : cl66.slots[((1 : Int32)).toNatClampNeg]? = some (.ref b52) := Has.at H66 hin66 rfl
  obtain ⟨cl67, Ar67, q67, S67, M67, H67, G67⟩ := id V61_2
  have hin67 : ¬ ((2 : Int32) < 0 ∨ cl67.slots.size ≤ ((2 : Int32)).toNatClampNeg) := inb_of S67 ⟨by decide, by decide⟩
  obtain ⟨T68, h68, X68, e68, W68, st68⟩ := stR X65 hx hZ e65 Ar67 (j := (2 : Int32)) hin67 rfl (own_stoA Ar67 q67 O16 (Ins.self X61_1)) (g := (mkF m 152 #[.val (.ref a), .val (.long q), .second, .val (.int (3 : Int32)), .val (.int lw), .val (.int (1 : Int32)), .val (.int (32768 : Int32))] [(.ref b52), (.int (2 : Int32)), (.ref b16)])) rfl rfl (hb hby own_d_prog_35_method_1_code_152)
  have V_b16_68 : Arv Z h68 b16 k16 (.array .long) (6 : Int32) [(.ref b22), (.ref b29), (.ref b52), .null, .null, .null] .null := Arv.set Ar67 q67 S67 M67 H67 G67 rfl W68 2 rfl (Nat.le_of_ble_eq_true rfl)
  have F68_0 := F61_0.other W68 (Or.inl ne_a_b16)
  have F68_1 := F61_1.other W68 (Or.inl ne_a_b16)
  have F68_2 := F61_2.other W68 (Or.inl ne_a_b16)
  have X68_0 := X61_0.wr W68
  have X68_1 := X61_1.wr W68
  have X68_2 := X61_2.wr W68
  have S68_0 := S61_0.wr W68
  have V68_0 := V61_0.other W68 ne_b10_b16
  have V68_1 := V_b12_61.other W68 ne_b12_b16
  have V68_3 := V61_3.other W68 (Ne.symm ne_b16_b22)
  have V68_4 := V61_4.other W68 (Ne.symm ne_b16_b29)
  have ne_b16_b52 : b16 ≠ b52 := Nat.ne_of_lt (Nat.lt_of_lt_of_le (V_b16_46).lt (Nat.le_of_eq g52.symm))
  have V68_5 := V61_5.other W68 (Ne.symm ne_b16_b52)
  have ne_b16_b59 : b16 ≠ b59 := Nat.ne_of_lt (Nat.lt_of_lt_of_le (V54_2).lt (Nat.le_of_eq g59.symm))
  have V68_6 := V61_6.other W68 (Ne.symm ne_b16_b59)
  have z68 : n0 ≤ h68.size := by rw [W68.size]; exact z61
  have K68 : Keep h0 h68 [a] := K61.wr W68 (Or.inr sz_b16)
  have N68 := Fr.snoc X68 N61 g_b16
  have pre69 : ∀ tt_, Steps p.tables e below (T68.setTop (mkF m 153 #[.val (.ref a), .val (.long q), .second, .val (.int (3 : Int32)), .val (.int lw), .val (.int (1 : Int32)), .val (.int (32768 : Int32))] [])) tt_ → Steps p.tables e below (s₁.setTop (entryFrame m #[(.ref a), (.long q)] 7)) tt_ := fun tt_ kk_ => pre62 tt_ (by
    show Steps p.tables e below (T61.setTop (mkF m 137 #[.val (.ref a), .val (.long q), .second, .val (.int (3 : Int32)), .val (.int lw), .val (.int (1 : Int32)), .val (.int (32768 : Int32))] [])) _
    refine XS.aloadN X61.here hx rfl (hb hby own_d_prog_35_method_1_code_137) rfl rfl ?_
    refine st63 _ ?_
    refine XS.iconst X63.here hx rfl (hb hby own_d_prog_35_method_1_code_141) ?_
    show Steps p.tables e below (T63.setTop (mkF m 142 #[.val (.ref a), .val (.long q), .second, .val (.int (3 : Int32)), .val (.int lw), .val (.int (1 : Int32)), .val (.int (32768 : Int32))] [(.int (2 : Int32)), (.ref b16)])) _
    refine XS.iload X63.here hx rfl (hb hby own_d_prog_35_method_1_code_142) rfl ?_
    refine XS.imul X63.here hx rfl (hb hby own_d_prog_35_method_1_code_144) rfl ?_
    show Steps p.tables e below (T63.setTop (mkF m 145 #[.val (.ref a), .val (.long q), .second, .val (.int (3 : Int32)), .val (.int lw), .val (.int (1 : Int32)), .val (.int (32768 : Int32))] [(.int ((2 : Int32) * (1 : Int32))), (.ref b16)])) _
    rw [fold64]
    show Steps p.tables e below (T63.setTop (mkF m 145 #[.val (.ref a), .val (.long q), .second, .val (.int (3 : Int32)), .val (.int lw), .val (.int (1 : Int32)), .val (.int (32768 : Int32))] [(.int (2 : Int32)), (.ref b16)])) _
    refine XS.aloadN X63.here hx rfl (hb hby own_d_prog_35_method_1_code_145) rfl rfl ?_
    refine st65 _ ?_
    refine XS.iload X65.here hx rfl (hb hby own_d_prog_35_method_1_code_149) rfl ?_
    refine X65.aaload hx (j := (1 : Int32)) (v := (.ref b52)) (by rw [e65]; exact Ar66.1) (State.isArrayOf_alike hZ.alike Ar66.2.1) rfl Ar66.2.2 hin66 hat66 (g := (mkF m 151 #[.val (.ref a), .val (.long q), .second, .val (.int (3 : Int32)), .val (.int lw), .val (.int (1 : Int32)), .val (.int (32768 : Int32))] [(.int (1 : Int32)), (.ref b10), (.int (2 : Int32)), (.ref b16)])) rfl rfl (hb hby own_d_prog_35_method_1_code_151) _ ?_
    refine st68 _ ?_
    exact kk_)
  obtain ⟨T70, X70, e70, st70⟩ := getF X68 hx hZ hown (host := "") (Or.inl (hw _ (List.mem_of_getElem? (i := 22) rfl))) Via.refl e68 F68_2 (g := (mkF m 162 #[.val (.ref a), .val (.long q), .second, .val (.int (3 : Int32)), .val (.int lw), .val (.int (1 : Int32)), .val (.int (32768 : Int32))] [(.ref a)])) rfl rfl (hb hby own_d_prog_35_method_1_code_162)
  have fold71 : ((2 : Int32) * (1 : Int32)) = (2 : Int32) := by decide +kernel
  have fold72 : ((2 : Int32) + (1 : Int32)) = (3 : Int32) := by decide +kernel
  obtain ⟨T73, X73, e73, st73⟩ := getF X70 hx hZ hown (host := "") (Or.inl (hw _ (List.mem_of_getElem? (i := 20) rfl))) Via.refl e70 F68_1 (g := (mkF m 172 #[.val (.ref a), .val (.long q), .second, .val (.int (3 : Int32)), .val (.int lw), .val (.int (1 : Int32)), .val (.int (32768 : Int32))] [(.ref a), (.int (3 : Int32)), (.ref b16)])) rfl rfl (hb hby own_d_prog_35_method_1_code_172)
  obtain ⟨cl74, Ar74, q74, S74, M74, H74, G74⟩ := id V68_1
  have hin74 : ¬ ((1 : Int32) < 0 ∨ cl74.slots.size ≤ ((1 : Int32)).toNatClampNeg) := inb_of S74 ⟨by decide, by decide⟩
  have hat74 : cl74.slots[((1 : Int32)).toNatClampNeg]? = some (.ref b59) := Has.at H74 hin74 rfl
  obtain ⟨cl75, Ar75, q75, S75, M75, H75, G75⟩ := id V_b16_68
  have hin75 : ¬ ((3 : Int32) < 0 ∨ cl75.slots.size ≤ ((3 : Int32)).toNatClampNeg) := inb_of S75 ⟨by decide, by decide⟩
  obtain ⟨T76, h76, X76, e76, W76, st76⟩ := stR X73 hx hZ e73 Ar75 (j := (3 : Int32)) hin75 rfl (own_stoA Ar75 q75 O16 (Ins.self X68_2)) (g := (mkF m 178 #[.val (.ref a), .val (.long q), .second, .val (.int (3 : Int32)), .val (.int lw), .val (.int (1 : Int32)), .val (.int (32768 : Int32))] [(.ref b59), (.int (3 : Int32)), (.ref b16)])) rfl rfl (hb hby own_d_prog_35_method_1_code_178)
  have V_b16_76 : Arv Z h76 b16 k16 (.array .long) (6 : Int32) [(.ref b22), (.ref b29), (.ref b52), (.ref b59), .null, .null] .null := Arv.set Ar75 q75 S75 M75 H75 G75 rfl W76 3 rfl (Nat.le_of_ble_eq_true rfl)
  have F76_0 := F68_0.other W76 (Or.inl ne_a_b16)
  have F76_1 := F68_1.other W76 (Or.inl ne_a_b16)
  have F76_2 := F68_2.other W76 (Or.inl ne_a_b16)
  have X76_0 := X68_0.wr W76
  have X76_1 := X68_1.wr W76
  have X76_2 := X68_2.wr W76
  have S76_0 := S68_0.wr W76
  have V76_0 := V68_0.other W76 ne_b10_b16
  have V76_1 := V68_1.other W76 ne_b12_b16
  have V76_3 := V68_3.other W76 (Ne.symm ne_b16_b22)
  have V76_4 := V68_4.other W76 (Ne.symm ne_b16_b29)
  have V76_5 := V68_5.other W76 (Ne.symm ne_b16_b52)
  have V76_6 := V68_6.other W76 (Ne.symm ne_b16_b59)
  have z76 : n0 ≤ h76.size := by rw [W76.size]; exact z68
  have K76 : Keep h0 h76 [a] := K68.wr W76 (Or.inr sz_b16)
  have N76 := Fr.snoc X76 N68 g_b16
  have fold77 : ((1 : Int32) + (1 : Int32)) = (2 : Int32) := by decide +kernel
  have pre78 : ∀ tt_, Steps p.tables e below (T76.setTop (mkF m 78 #[.val (.ref a), .val (.long q), .second, .val (.int (3 : Int32)), .val (.int lw), .val (.int (2 : Int32)), .val (.int (32768 : Int32))] [])) tt_ → Steps p.tables e below (s₁.setTop (entryFrame m #[(.ref a), (.long q)] 7)) tt_ := fun tt_ kk_ => pre69 tt_ (by
    show Steps p.tables e below (T68.setTop (mkF m 153 #[.val (.ref a), .val (.long q), .second, .val (.int (3 : Int32)), .val (.int lw), .val (.int (1 : Int32)), .val (.int (32768 : Int32))] [])) _
    refine XS.iload X68.here hx rfl (hb hby own_d_prog_35_method_1_code_153) rfl ?_
    show Steps p.tables e below (T68.setTop (mkF m 155 #[.val (.ref a), .val (.long q), .second, .val (.int (3 : Int32)), .val (.int lw), .val (.int (1 : Int32)), .val (.int (32768 : Int32))] [(.int (32768 : Int32))])) _
    refine XS.sipush X68.here hx rfl (hb hby own_d_prog_35_method_1_code_155) ?_
    refine XS.icmpNo X68.here hx rfl (hb hby own_d_prog_35_method_1_code_158) rfl (tlt ((by decide) : (32764 : Int32) < (32768 : Int32))).2.2.2 ?_
    refine XS.aloadN X68.here hx rfl (hb hby own_d_prog_35_method_1_code_161) rfl rfl ?_
    refine st70 _ ?_
    refine XS.iconst X70.here hx rfl (hb hby own_d_prog_35_method_1_code_165) ?_
    refine XS.iload X70.here hx rfl (hb hby own_d_prog_35_method_1_code_166) rfl ?_
    refine XS.imul X70.here hx rfl (hb hby own_d_prog_35_method_1_code_168) rfl ?_
    show Steps p.tables e below (T70.setTop (mkF m 169 #[.val (.ref a), .val (.long q), .second, .val (.int (3 : Int32)), .val (.int lw), .val (.int (1 : Int32)), .val (.int (32768 : Int32))] [(.int ((2 : Int32) * (1 : Int32))), (.ref b16)])) _
    rw [fold71]
    show Steps p.tables e below (T70.setTop (mkF m 169 #[.val (.ref a), .val (.long q), .second, .val (.int (3 : Int32)), .val (.int lw), .val (.int (1 : Int32)), .val (.int (32768 : Int32))] [(.int (2 : Int32)), (.ref b16)])) _
    refine XS.iconst X70.here hx rfl (hb hby own_d_prog_35_method_1_code_169) ?_
    refine XS.iadd X70.here hx rfl (hb hby own_d_prog_35_method_1_code_170) rfl ?_
    show Steps p.tables e below (T70.setTop (mkF m 171 #[.val (.ref a), .val (.long q), .second, .val (.int (3 : Int32)), .val (.int lw), .val (.int (1 : Int32)), .val (.int (32768 : Int32))] [(.int ((2 : Int32) + (1 : Int32))), (.ref b16)])) _
    rw [fold72]
    show Steps p.tables e below (T70.setTop (mkF m 171 #[.val (.ref a), .val (.long q), .second, .val (.int (3 : Int32)), .val (.int lw), .val (.int (1 : Int32)), .val (.int (32768 : Int32))] [(.int (3 : Int32)), (.ref b16)])) _
    refine XS.aloadN X70.here hx rfl (hb hby own_d_prog_35_method_1_code_171) rfl rfl ?_
    refine st73 _ ?_
    refine XS.iload X73.here hx rfl (hb hby own_d_prog_35_method_1_code_175) rfl ?_
    refine X73.aaload hx (j := (1 : Int32)) (v := (.ref b59)) (by rw [e73]; exact Ar74.1) (State.isArrayOf_alike hZ.alike Ar74.2.1) rfl Ar74.2.2 hin74 hat74 (g := (mkF m 177 #[.val (.ref a), .val (.long q), .second, .val (.int (3 : Int32)), .val (.int lw), .val (.int (1 : Int32)), .val (.int (32768 : Int32))] [(.int (1 : Int32)), (.ref b12), (.int (3 : Int32)), (.ref b16)])) rfl rfl (hb hby own_d_prog_35_method_1_code_177) _ ?_
    refine st76 _ ?_
    refine XS.iinc X76.here hx rfl (hb hby own_d_prog_35_method_1_code_179) rfl (l' := #[.val (.ref a), .val (.long q), .second, .val (.int (3 : Int32)), .val (.int lw), .val (.int ((1 : Int32) + (1 : Int32))), .val (.int (32768 : Int32))]) rfl ?_
    show Steps p.tables e below (T76.setTop (mkF m 182 #[.val (.ref a), .val (.long q), .second, .val (.int (3 : Int32)), .val (.int lw), .val (.int ((1 : Int32) + (1 : Int32))), .val (.int (32768 : Int32))] [])) _
    rw [fold77]
    show Steps p.tables e below (T76.setTop (mkF m 182 #[.val (.ref a), .val (.long q), .second, .val (.int (3 : Int32)), .val (.int lw), .val (.int (2 : Int32)), .val (.int (32768 : Int32))] [])) _
    refine XS.goto X76.here hx rfl (pc0 := 182) (pc' := 78) rfl (hb hby own_d_prog_35_method_1_code_182) (by decide) (by decide) ?_
    exact kk_)
  have fold79 : ((3 : Int32) - (1 : Int32)) = (2 : Int32) := by decide +kernel
  obtain ⟨T80, X80, e80, st80⟩ := getF X76 hx hZ hown (host := "") (Or.inl (hw _ (List.mem_of_getElem? (i := 18) rfl))) Via.refl e76 F76_0 (g := (mkF m 102 #[.val (.ref a), .val (.long q), .second, .val (.int (3 : Int32)), .val (.int lw), .val (.int (2 : Int32)), .val (.int lw)] [(.ref a)])) rfl rfl (hb hby own_d_prog_35_method_1_code_102)
  obtain ⟨_, _, ⟨T81, L81, k81, n81⟩, -, X81, ⟨Lc81, hQ81, l81, y81, z81⟩, st81⟩ := Jvm.LawKit.callS X80 hx (y := (⟨"java/lang/Math", "min", "(II)I"⟩ : MethodName)) hown (mvT hZ (hw _ (List.mem_of_getElem? (i := 24) rfl))) (mvT hZ (hw _ (List.mem_of_getElem? (i := 25) rfl))) (mvT hZ (hw _ (List.mem_of_getElem? (i := 26) rfl))) (mvT hZ (hw _ (List.mem_of_getElem? (i := 27) rfl))) (by decide) (backOf (W := 2) (rmMin l Z a0 hw [] lw (32764 : Int32) (own_min lw (32764 : Int32)) h76 n0 z76 rfl) hZ (hw _ (List.mem_of_getElem? (i := 27) rfl)) (hw _ (List.mem_of_getElem? (i := 26) rfl)) (by decide) (by decide)) (g := (mkF m 112 #[.val (.ref a), .val (.long q), .second, .val (.int (3 : Int32)), .val (.int lw), .val (.int (2 : Int32)), .val (.int lw)] [(.int (32764 : Int32)), (.int lw), (.int (2 : Int32)), (.ref b10)])) rfl (by rw [hml]; rfl) (argsL := [(.int lw), (.int (32764 : Int32))]) (rest := [(.int (2 : Int32)), (.ref b10)]) (lenOf own_pd0 rfl) rfl (by show 2 * 0 + _ ≤ _; exact Nat.le_of_eq rfl) (hb hby own_d_prog_35_method_1_code_112) (fun _ _ => ⟨rfl, e80, (by decide : 7 + 0 ≤ _), (by decide : 65548 + 0 ≤ _)⟩)
  dsimp only [Pt.U, Pt.locs, Pt.cells, Pt.slots] at X81 l81 y81 z81 st81 hQ81
  replace l81 := l81.symm; subst l81 y81 z81
  obtain ⟨rfl, N81q, e81⟩ := hQ81
  have N81 := Fr.app N76 N81q
  obtain ⟨T82, h82, k82, X82, e82, E82, A82, Ea82, st82⟩ := newPE X81 hx hZ (hw _ (List.mem_of_getElem? (i := 28) rfl)) e81 (g := (mkF m 115 #[.val (.ref a), .val (.long q), .second, .val (.int (3 : Int32)), .val (.int lw), .val (.int (2 : Int32)), .val (.int lw)] [(.int (own_min lw (32764 : Int32))), (.int (2 : Int32)), (.ref b10)])) rfl (hb hby own_d_prog_35_method_1_code_115) rfl (own_hneg hlb) (cap := 32764) (own_hcap hlb) (by decide) (by decide) (by decide) (ad := "[J") (by decide +kernel)
  obtain ⟨b82, g82⟩ : ∃ z, z = h76.size := ⟨_, rfl⟩
  rw [← g82] at A82 st82 Ea82
  have g_b82 : n0 ≤ b82 := Nat.le_trans z76 (Nat.le_of_eq g82.symm)
  have sz_b82 : h0.size ≤ b82 := Nat.le_trans K76.1 (Nat.le_of_eq g82.symm)
  have F82_0 := F76_0.ext E82
  have F82_1 := F76_1.ext E82
  have F82_2 := F76_2.ext E82
  have X82_0 := X76_0.ext E82
  have S82_0 := S76_0.ext E82
  have V82_0 := V76_0.ext E82
  have V82_1 := V76_1.ext E82
  have V82_2 := V_b16_76.ext E82
  have V82_3 := V76_3.ext E82
  have V82_4 := V76_4.ext E82
  have V82_5 := V76_5.ext E82
  have V82_6 := V76_6.ext E82
  have z82 : n0 ≤ h82.size := Nat.le_trans z76 E82.1
  have K82 : Keep h0 h82 [a] := K76.ext E82
  have V_b82 : Arv Z h82 b82 k82 .long (own_min lw (32764 : Int32)) [] (.long (0 : Int64)) := (Arv.new A82 (own_hneg hlb)).pad (pad_rep [] (.long (0 : Int64)) 0)
  obtain ⟨cl83, Ar83, q83, S83, M83, H83, G83⟩ := id V82_0
  have hin83 : ¬ ((2 : Int32) < 0 ∨ cl83.slots.size ≤ ((2 : Int32)).toNatClampNeg) := inb_of S83 ⟨by decide, by decide⟩
  obtain ⟨T84, h84, X84, e84, W84, st84⟩ := stR X82 hx hZ e82 Ar83 (j := (2 : Int32)) hin83 rfl (own_stoA Ar83 q83 O10 (Ins.self Ea82)) (g := (mkF m 117 #[.val (.ref a), .val (.long q), .second, .val (.int (3 : Int32)), .val (.int lw), .val (.int (2 : Int32)), .val (.int lw)] [(.ref b82), (.int (2 : Int32)), (.ref b10)])) rfl rfl (hb hby own_d_prog_35_method_1_code_117)
  have V_b10_84 : Arv Z h84 b10 k10 (.array .long) (3 : Int32) [(.ref b22), (.ref b52), (.ref b82)] .null := Arv.set Ar83 q83 S83 M83 H83 G83 rfl W84 2 rfl (Nat.le_of_ble_eq_true rfl)
  have F84_0 := F82_0.other W84 (Or.inl ne_a_b10)
  have F84_1 := F82_1.other W84 (Or.inl ne_a_b10)
  have F84_2 := F82_2.other W84 (Or.inl ne_a_b10)
  have X84_0 := X82_0.wr W84
  have X84_1 := Ea82.wr W84
  have S84_0 := S82_0.wr W84
  have V84_1 := V82_1.other W84 (Ne.symm ne_b10_b12)
  have V84_2 := V82_2.other W84 (Ne.symm ne_b10_b16)
  have V84_3 := V82_3.other W84 (Ne.symm ne_b10_b22)
  have V84_4 := V82_4.other W84 (Ne.symm ne_b10_b29)
  have V84_5 := V82_5.other W84 (Ne.symm ne_b10_b52)
  have ne_b10_b59 : b10 ≠ b59 := Nat.ne_of_lt (Nat.lt_of_lt_of_le (V_b10_54).lt (Nat.le_of_eq g59.symm))
  have V84_6 := V82_6.other W84 (Ne.symm ne_b10_b59)
  have ne_b10_b82 : b10 ≠ b82 := Nat.ne_of_lt (Nat.lt_of_lt_of_le (V76_0).lt (Nat.le_of_eq g82.symm))
  have V84_7 := V_b82.other W84 (Ne.symm ne_b10_b82)
  have z84 : n0 ≤ h84.size := by rw [W84.size]; exact z82
  have K84 : Keep h0 h84 [a] := K82.wr W84 (Or.inr sz_b10)
  have N84 := Fr.snoc X84 N81 g_b10
  have pre85 : ∀ tt_, Steps p.tables e below (T84.setTop (mkF m 118 #[.val (.ref a), .val (.long q), .second, .val (.int (3 : Int32)), .val (.int lw), .val (.int (2 : Int32)), .val (.int lw)] [])) tt_ → Steps p.tables e below (s₁.setTop (entryFrame m #[(.ref a), (.long q)] 7)) tt_ := fun tt_ kk_ => pre78 tt_ (by
    show Steps p.tables e below (T76.setTop (mkF m 78 #[.val (.ref a), .val (.long q), .second, .val (.int (3 : Int32)), .val (.int lw), .val (.int (2 : Int32)), .val (.int (32768 : Int32))] [])) _
    refine XS.iload X76.here hx rfl (hb hby own_d_prog_35_method_1_code_78) rfl ?_
    refine XS.iloadN X76.here hx rfl (hb hby own_d_prog_35_method_1_code_80) rfl ?_
    refine XS.icmpNo X76.here hx rfl (hb hby own_d_prog_35_method_1_code_81) rfl (tlt ((by decide) : (2 : Int32) < (3 : Int32))).2.1 ?_
    refine XS.iload X76.here hx rfl (hb hby own_d_prog_35_method_1_code_84) rfl ?_
    refine XS.iloadN X76.here hx rfl (hb hby own_d_prog_35_method_1_code_86) rfl ?_
    show Steps p.tables e below (T76.setTop (mkF m 87 #[.val (.ref a), .val (.long q), .second, .val (.int (3 : Int32)), .val (.int lw), .val (.int (2 : Int32)), .val (.int (32768 : Int32))] [(.int (3 : Int32)), (.int (2 : Int32))])) _
    refine XS.iconst X76.here hx rfl (hb hby own_d_prog_35_method_1_code_87) ?_
    refine XS.isub X76.here hx rfl (hb hby own_d_prog_35_method_1_code_88) rfl ?_
    show Steps p.tables e below (T76.setTop (mkF m 89 #[.val (.ref a), .val (.long q), .second, .val (.int (3 : Int32)), .val (.int lw), .val (.int (2 : Int32)), .val (.int (32768 : Int32))] [(.int ((3 : Int32) - (1 : Int32))), (.int (2 : Int32))])) _
    rw [fold79]
    show Steps p.tables e below (T76.setTop (mkF m 89 #[.val (.ref a), .val (.long q), .second, .val (.int (3 : Int32)), .val (.int lw), .val (.int (2 : Int32)), .val (.int (32768 : Int32))] [(.int (2 : Int32)), (.int (2 : Int32))])) _
    refine XS.icmpYes X76.here hx rfl (pc0 := 89) (pc' := 97) rfl (hb hby own_d_prog_35_method_1_code_89) rfl (flt ((by decide) : ¬ ((2 : Int32) < (2 : Int32)))).2.1 (by decide) (by decide) ?_
    refine XS.iload X76.here hx rfl (hb hby own_d_prog_35_method_1_code_97) rfl ?_
    refine XS.istore X76.here hx rfl (hb hby own_d_prog_35_method_1_code_99) rfl (l' := #[.val (.ref a), .val (.long q), .second, .val (.int (3 : Int32)), .val (.int lw), .val (.int (2 : Int32)), .val (.int lw)]) rfl ?_
    refine XS.aloadN X76.here hx rfl (hb hby own_d_prog_35_method_1_code_101) rfl rfl ?_
    refine st80 _ ?_
    show Steps p.tables e below (T80.setTop (mkF m 105 #[.val (.ref a), .val (.long q), .second, .val (.int (3 : Int32)), .val (.int lw), .val (.int (2 : Int32)), .val (.int lw)] [(.ref b10)])) _
    refine XS.iload X80.here hx rfl (hb hby own_d_prog_35_method_1_code_105) rfl ?_
    refine XS.iload X80.here hx rfl (hb hby own_d_prog_35_method_1_code_107) rfl ?_
    refine XS.sipush X80.here hx rfl (hb hby own_d_prog_35_method_1_code_109) ?_
    show Steps p.tables e below (T80.setTop (mkF m 112 #[.val (.ref a), .val (.long q), .second, .val (.int (3 : Int32)), .val (.int lw), .val (.int (2 : Int32)), .val (.int lw)] [(.int (32764 : Int32)), (.int lw), (.int (2 : Int32)), (.ref b10)])) _
    refine st81 _ ?_
    refine st82 _ ?_
    refine st84 _ ?_
    exact kk_)
  obtain ⟨T86, X86, e86, st86⟩ := getF X84 hx hZ hown (host := "") (Or.inl (hw _ (List.mem_of_getElem? (i := 20) rfl))) Via.refl e84 F84_1 (g := (mkF m 119 #[.val (.ref a), .val (.long q), .second, .val (.int (3 : Int32)), .val (.int lw), .val (.int (2 : Int32)), .val (.int lw)] [(.ref a)])) rfl rfl (hb hby own_d_prog_35_method_1_code_119)
  obtain ⟨_, _, ⟨T87, L87, k87, n87⟩, -, X87, ⟨Lc87, hQ87, l87, y87, z87⟩, st87⟩ := Jvm.LawKit.callS X86 hx (y := (⟨"java/lang/Math", "max", "(II)I"⟩ : MethodName)) hown (mvT hZ (hw _ (List.mem_of_getElem? (i := 30) rfl))) (mvT hZ (hw _ (List.mem_of_getElem? (i := 31) rfl))) (mvT hZ (hw _ (List.mem_of_getElem? (i := 26) rfl))) (mvT hZ (hw _ (List.mem_of_getElem? (i := 32) rfl))) (by decide) (backOf (W := 2) (rmMax l Z a0 hw [] (lw - (32764 : Int32)) (0 : Int32) (own_max (lw - (32764 : Int32)) (0 : Int32)) h84 n0 z84 rfl) hZ (hw _ (List.mem_of_getElem? (i := 32) rfl)) (hw _ (List.mem_of_getElem? (i := 26) rfl)) (by decide) (by decide)) (g := (mkF m 131 #[.val (.ref a), .val (.long q), .second, .val (.int (3 : Int32)), .val (.int lw), .val (.int (2 : Int32)), .val (.int lw)] [(.int (0 : Int32)), (.int (lw - (32764 : Int32))), (.int (2 : Int32)), (.ref b12)])) rfl (by rw [hml]; rfl) (argsL := [(.int (lw - (32764 : Int32))), (.int (0 : Int32))]) (rest := [(.int (2 : Int32)), (.ref b12)]) (lenOf own_pd0 rfl) rfl (by show 2 * 0 + _ ≤ _; exact Nat.le_of_eq rfl) (hb hby own_d_prog_35_method_1_code_131) (fun _ _ => ⟨rfl, e86, (by decide : 8 + 0 ≤ _), (by decide : 98312 + 0 ≤ _)⟩)
  dsimp only [Pt.U, Pt.locs, Pt.cells, Pt.slots] at X87 l87 y87 z87 st87 hQ87
  replace l87 := l87.symm; subst l87 y87 z87
  obtain ⟨rfl, N87q, e87⟩ := hQ87
  have N87 := Fr.app N84 N87q
  obtain ⟨T88, h88, k88, X88, e88, E88, A88, Ea88, st88⟩ := newPE X87 hx hZ (hw _ (List.mem_of_getElem? (i := 28) rfl)) e87 (g := (mkF m 134 #[.val (.ref a), .val (.long q), .second, .val (.int (3 : Int32)), .val (.int lw), .val (.int (2 : Int32)), .val (.int lw)] [(.int (own_max (lw - (32764 : Int32)) (0 : Int32))), (.int (2 : Int32)), (.ref b12)])) rfl (hb hby own_d_prog_35_method_1_code_134) rfl (own_tneg hlb) (cap := 4) (own_tcap hlb) (by decide) (by decide) (by decide) (ad := "[J") (by decide +kernel)
  obtain ⟨b88, g88⟩ : ∃ z, z = h84.size := ⟨_, rfl⟩
  rw [← g88] at A88 st88 Ea88
  have g_b88 : n0 ≤ b88 := Nat.le_trans z84 (Nat.le_of_eq g88.symm)
  have sz_b88 : h0.size ≤ b88 := Nat.le_trans K84.1 (Nat.le_of_eq g88.symm)
  have F88_0 := F84_0.ext E88
  have F88_1 := F84_1.ext E88
  have F88_2 := F84_2.ext E88
  have X88_0 := X84_0.ext E88
  have X88_1 := X84_1.ext E88
  have S88_0 := S84_0.ext E88
  have V88_0 := V_b10_84.ext E88
  have V88_1 := V84_1.ext E88
  have V88_2 := V84_2.ext E88
  have V88_3 := V84_3.ext E88
  have V88_4 := V84_4.ext E88
  have V88_5 := V84_5.ext E88
  have V88_6 := V84_6.ext E88
  have V88_7 := V84_7.ext E88
  have z88 : n0 ≤ h88.size := Nat.le_trans z84 E88.1
  have K88 : Keep h0 h88 [a] := K84.ext E88
  have V_b88 : Arv Z h88 b88 k88 .long (own_max (lw - (32764 : Int32)) (0 : Int32)) [] (.long (0 : Int64)) := (Arv.new A88 (own_tneg hlb)).pad (pad_rep [] (.long (0 : Int64)) 0)
  obtain ⟨cl89, Ar89, q89, S89, M89, H89, G89⟩ := id V88_1
  have hin89 : ¬ ((2 : Int32) < 0 ∨ cl89.slots.size ≤ ((2 : Int32)).toNatClampNeg) := inb_of S89 ⟨by decide, by decide⟩
  obtain ⟨T90, h90, X90, e90, W90, st90⟩ := stR X88 hx hZ e88 Ar89 (j := (2 : Int32)) hin89 rfl (own_stoA Ar89 q89 O12 (Ins.self Ea88)) (g := (mkF m 136 #[.val (.ref a), .val (.long q), .second, .val (.int (3 : Int32)), .val (.int lw), .val (.int (2 : Int32)), .val (.int lw)] [(.ref b88), (.int (2 : Int32)), (.ref b12)])) rfl rfl (hb hby own_d_prog_35_method_1_code_136)
  have V_b12_90 : Arv Z h90 b12 k12 (.array .long) (3 : Int32) [(.ref b29), (.ref b59), (.ref b88)] .null := Arv.set Ar89 q89 S89 M89 H89 G89 rfl W90 2 rfl (Nat.le_of_ble_eq_true rfl)
  have F90_0 := F88_0.other W90 (Or.inl ne_a_b12)
  have F90_1 := F88_1.other W90 (Or.inl ne_a_b12)
  have F90_2 := F88_2.other W90 (Or.inl ne_a_b12)
  have X90_0 := X88_0.wr W90
  have X90_1 := X88_1.wr W90
  have X90_2 := Ea88.wr W90
  have S90_0 := S88_0.wr W90
  have V90_0 := V88_0.other W90 ne_b10_b12
  have V90_2 := V88_2.other W90 (Ne.symm ne_b12_b16)
  have V90_3 := V88_3.other W90 (Ne.symm ne_b12_b22)
  have V90_4 := V88_4.other W90 (Ne.symm ne_b12_b29)
  have V90_5 := V88_5.other W90 (Ne.symm ne_b12_b52)
  have V90_6 := V88_6.other W90 (Ne.symm ne_b12_b59)
  have ne_b12_b82 : b12 ≠ b82 := Nat.ne_of_lt (Nat.lt_of_lt_of_le (V76_1).lt (Nat.le_of_eq g82.symm))
  have V90_7 := V88_7.other W90 (Ne.symm ne_b12_b82)
  have ne_b12_b88 : b12 ≠ b88 := Nat.ne_of_lt (Nat.lt_of_lt_of_le (V84_1).lt (Nat.le_of_eq g88.symm))
  have V90_8 := V_b88.other W90 (Ne.symm ne_b12_b88)
  have z90 : n0 ≤ h90.size := by rw [W90.size]; exact z88
  have K90 : Keep h0 h90 [a] := K88.wr W90 (Or.inr sz_b12)
  have N90 := Fr.snoc X90 N87 g_b12
  have pre91 : ∀ tt_, Steps p.tables e below (T90.setTop (mkF m 137 #[.val (.ref a), .val (.long q), .second, .val (.int (3 : Int32)), .val (.int lw), .val (.int (2 : Int32)), .val (.int lw)] [])) tt_ → Steps p.tables e below (s₁.setTop (entryFrame m #[(.ref a), (.long q)] 7)) tt_ := fun tt_ kk_ => pre85 tt_ (by
    show Steps p.tables e below (T84.setTop (mkF m 118 #[.val (.ref a), .val (.long q), .second, .val (.int (3 : Int32)), .val (.int lw), .val (.int (2 : Int32)), .val (.int lw)] [])) _
    refine XS.aloadN X84.here hx rfl (hb hby own_d_prog_35_method_1_code_118) rfl rfl ?_
    refine st86 _ ?_
    refine XS.iload X86.here hx rfl (hb hby own_d_prog_35_method_1_code_122) rfl ?_
    refine XS.iload X86.here hx rfl (hb hby own_d_prog_35_method_1_code_124) rfl ?_
    show Steps p.tables e below (T86.setTop (mkF m 126 #[.val (.ref a), .val (.long q), .second, .val (.int (3 : Int32)), .val (.int lw), .val (.int (2 : Int32)), .val (.int lw)] [(.int lw), (.int (2 : Int32)), (.ref b12)])) _
    refine XS.sipush X86.here hx rfl (hb hby own_d_prog_35_method_1_code_126) ?_
    refine XS.isub X86.here hx rfl (hb hby own_d_prog_35_method_1_code_129) rfl ?_
    refine XS.iconst X86.here hx rfl (hb hby own_d_prog_35_method_1_code_130) ?_
    show Steps p.tables e below (T86.setTop (mkF m 131 #[.val (.ref a), .val (.long q), .second, .val (.int (3 : Int32)), .val (.int lw), .val (.int (2 : Int32)), .val (.int lw)] [(.int (0 : Int32)), (.int (lw - (32764 : Int32))), (.int (2 : Int32)), (.ref b12)])) _
    refine st87 _ ?_
    refine st88 _ ?_
    refine st90 _ ?_
    exact kk_)
  obtain ⟨T92, X92, e92, st92⟩ := getF X90 hx hZ hown (host := "") (Or.inl (hw _ (List.mem_of_getElem? (i := 22) rfl))) Via.refl e90 F90_2 (g := (mkF m 138 #[.val (.ref a), .val (.long q), .second, .val (.int (3 : Int32)), .val (.int lw), .val (.int (2 : Int32)), .val (.int lw)] [(.ref a)])) rfl rfl (hb hby own_d_prog_35_method_1_code_138)
  have fold93 : ((2 : Int32) * (2 : Int32)) = (4 : Int32) := by decide +kernel
  obtain ⟨T94, X94, e94, st94⟩ := getF X92 hx hZ hown (host := "") (Or.inl (hw _ (List.mem_of_getElem? (i := 18) rfl))) Via.refl e92 F90_0 (g := (mkF m 146 #[.val (.ref a), .val (.long q), .second, .val (.int (3 : Int32)), .val (.int lw), .val (.int (2 : Int32)), .val (.int lw)] [(.ref a), (.int (4 : Int32)), (.ref b16)])) rfl rfl (hb hby own_d_prog_35_method_1_code_146)
  obtain ⟨cl95, Ar95, q95, S95, M95, H95, G95⟩ := id V90_0
  have hin95 : ¬ ((2 : Int32) < 0 ∨ cl95.slots.size ≤ ((2 : Int32)).toNatClampNeg) := inb_of S95 ⟨by decide, by decide⟩
  have hat95 : cl95.slots[((2 : Int32)).toNatClampNeg]? = some (.ref b82) := Has.at H95 hin95 rfl
  obtain ⟨cl96, Ar96, q96, S96, M96, H96, G96⟩ := id V90_2
  have hin96 : ¬ ((4 : Int32) < 0 ∨ cl96.slots.size ≤ ((4 : Int32)).toNatClampNeg) := inb_of S96 ⟨by decide, by decide⟩
  obtain ⟨T97, h97, X97, e97, W97, st97⟩ := stR X94 hx hZ e94 Ar96 (j := (4 : Int32)) hin96 rfl (own_stoA Ar96 q96 O16 (Ins.self X90_1)) (g := (mkF m 152 #[.val (.ref a), .val (.long q), .second, .val (.int (3 : Int32)), .val (.int lw), .val (.int (2 : Int32)), .val (.int lw)] [(.ref b82), (.int (4 : Int32)), (.ref b16)])) rfl rfl (hb hby own_d_prog_35_method_1_code_152)
  have V_b16_97 : Arv Z h97 b16 k16 (.array .long) (6 : Int32) [(.ref b22), (.ref b29), (.ref b52), (.ref b59), (.ref b82), .null] .null := Arv.set Ar96 q96 S96 M96 H96 G96 rfl W97 4 rfl (Nat.le_of_ble_eq_true rfl)
  have F97_0 := F90_0.other W97 (Or.inl ne_a_b16)
  have F97_1 := F90_1.other W97 (Or.inl ne_a_b16)
  have F97_2 := F90_2.other W97 (Or.inl ne_a_b16)
  have X97_0 := X90_0.wr W97
  have X97_1 := X90_1.wr W97
  have X97_2 := X90_2.wr W97
  have S97_0 := S90_0.wr W97
  have V97_0 := V90_0.other W97 ne_b10_b16
  have V97_1 := V_b12_90.other W97 ne_b12_b16
  have V97_3 := V90_3.other W97 (Ne.symm ne_b16_b22)
  have V97_4 := V90_4.other W97 (Ne.symm ne_b16_b29)
  have V97_5 := V90_5.other W97 (Ne.symm ne_b16_b52)
  have V97_6 := V90_6.other W97 (Ne.symm ne_b16_b59)
  have ne_b16_b82 : b16 ≠ b82 := Nat.ne_of_lt (Nat.lt_of_lt_of_le (V_b16_76).lt (Nat.le_of_eq g82.symm))
  have V97_7 := V90_7.other W97 (Ne.symm ne_b16_b82)
  have ne_b16_b88 : b16 ≠ b88 := Nat.ne_of_lt (Nat.lt_of_lt_of_le (V84_2).lt (Nat.le_of_eq g88.symm))
  have V97_8 := V90_8.other W97 (Ne.symm ne_b16_b88)
  have z97 : n0 ≤ h97.size := by rw [W97.size]; exact z90
  have K97 : Keep h0 h97 [a] := K90.wr W97 (Or.inr sz_b16)
  have N97 := Fr.snoc X97 N90 g_b16
  have pre98 : ∀ tt_, Steps p.tables e below (T97.setTop (mkF m 153 #[.val (.ref a), .val (.long q), .second, .val (.int (3 : Int32)), .val (.int lw), .val (.int (2 : Int32)), .val (.int lw)] [])) tt_ → Steps p.tables e below (s₁.setTop (entryFrame m #[(.ref a), (.long q)] 7)) tt_ := fun tt_ kk_ => pre91 tt_ (by
    show Steps p.tables e below (T90.setTop (mkF m 137 #[.val (.ref a), .val (.long q), .second, .val (.int (3 : Int32)), .val (.int lw), .val (.int (2 : Int32)), .val (.int lw)] [])) _
    refine XS.aloadN X90.here hx rfl (hb hby own_d_prog_35_method_1_code_137) rfl rfl ?_
    refine st92 _ ?_
    refine XS.iconst X92.here hx rfl (hb hby own_d_prog_35_method_1_code_141) ?_
    refine XS.iload X92.here hx rfl (hb hby own_d_prog_35_method_1_code_142) rfl ?_
    show Steps p.tables e below (T92.setTop (mkF m 144 #[.val (.ref a), .val (.long q), .second, .val (.int (3 : Int32)), .val (.int lw), .val (.int (2 : Int32)), .val (.int lw)] [(.int (2 : Int32)), (.int (2 : Int32)), (.ref b16)])) _
    refine XS.imul X92.here hx rfl (hb hby own_d_prog_35_method_1_code_144) rfl ?_
    show Steps p.tables e below (T92.setTop (mkF m 145 #[.val (.ref a), .val (.long q), .second, .val (.int (3 : Int32)), .val (.int lw), .val (.int (2 : Int32)), .val (.int lw)] [(.int ((2 : Int32) * (2 : Int32))), (.ref b16)])) _
    rw [fold93]
    show Steps p.tables e below (T92.setTop (mkF m 145 #[.val (.ref a), .val (.long q), .second, .val (.int (3 : Int32)), .val (.int lw), .val (.int (2 : Int32)), .val (.int lw)] [(.int (4 : Int32)), (.ref b16)])) _
    refine XS.aloadN X92.here hx rfl (hb hby own_d_prog_35_method_1_code_145) rfl rfl ?_
    refine st94 _ ?_
    refine XS.iload X94.here hx rfl (hb hby own_d_prog_35_method_1_code_149) rfl ?_
    refine X94.aaload hx (j := (2 : Int32)) (v := (.ref b82)) (by rw [e94]; exact Ar95.1) (State.isArrayOf_alike hZ.alike Ar95.2.1) rfl Ar95.2.2 hin95 hat95 (g := (mkF m 151 #[.val (.ref a), .val (.long q), .second, .val (.int (3 : Int32)), .val (.int lw), .val (.int (2 : Int32)), .val (.int lw)] [(.int (2 : Int32)), (.ref b10), (.int (4 : Int32)), (.ref b16)])) rfl rfl (hb hby own_d_prog_35_method_1_code_151) _ ?_
    refine st97 _ ?_
    exact kk_)
  obtain ⟨T99, X99, e99, st99⟩ := getF X97 hx hZ hown (host := "") (Or.inl (hw _ (List.mem_of_getElem? (i := 22) rfl))) Via.refl e97 F97_2 (g := (mkF m 162 #[.val (.ref a), .val (.long q), .second, .val (.int (3 : Int32)), .val (.int lw), .val (.int (2 : Int32)), .val (.int lw)] [(.ref a)])) rfl rfl (hb hby own_d_prog_35_method_1_code_162)
  have fold100 : ((2 : Int32) * (2 : Int32)) = (4 : Int32) := by decide +kernel
  have fold101 : ((4 : Int32) + (1 : Int32)) = (5 : Int32) := by decide +kernel
  obtain ⟨T102, X102, e102, st102⟩ := getF X99 hx hZ hown (host := "") (Or.inl (hw _ (List.mem_of_getElem? (i := 20) rfl))) Via.refl e99 F97_1 (g := (mkF m 172 #[.val (.ref a), .val (.long q), .second, .val (.int (3 : Int32)), .val (.int lw), .val (.int (2 : Int32)), .val (.int lw)] [(.ref a), (.int (5 : Int32)), (.ref b16)])) rfl rfl (hb hby own_d_prog_35_method_1_code_172)
  obtain ⟨cl103, Ar103, q103, S103, M103, H103, G103⟩ := id V97_1
  have hin103 : ¬ ((2 : Int32) < 0 ∨ cl103.slots.size ≤ ((2 : Int32)).toNatClampNeg) := inb_of S103 ⟨by decide, by decide⟩
  have hat103 : cl103.slots[((2 : Int32)).toNatClampNeg]? = some (.ref b88) := Has.at H103 hin103 rfl
  obtain ⟨cl104, Ar104, q104, S104, M104, H104, G104⟩ := id V_b16_97
  have hin104 : ¬ ((5 : Int32) < 0 ∨ cl104.slots.size ≤ ((5 : Int32)).toNatClampNeg) := inb_of S104 ⟨by decide, by decide⟩
  obtain ⟨T105, h105, X105, e105, W105, st105⟩ := stR X102 hx hZ e102 Ar104 (j := (5 : Int32)) hin104 rfl (own_stoA Ar104 q104 O16 (Ins.self X97_2)) (g := (mkF m 178 #[.val (.ref a), .val (.long q), .second, .val (.int (3 : Int32)), .val (.int lw), .val (.int (2 : Int32)), .val (.int lw)] [(.ref b88), (.int (5 : Int32)), (.ref b16)])) rfl rfl (hb hby own_d_prog_35_method_1_code_178)
  have V_b16_105 : Arv Z h105 b16 k16 (.array .long) (6 : Int32) [(.ref b22), (.ref b29), (.ref b52), (.ref b59), (.ref b82), (.ref b88)] .null := Arv.set Ar104 q104 S104 M104 H104 G104 rfl W105 5 rfl (Nat.le_of_ble_eq_true rfl)
  have F105_0 := F97_0.other W105 (Or.inl ne_a_b16)
  have F105_1 := F97_1.other W105 (Or.inl ne_a_b16)
  have F105_2 := F97_2.other W105 (Or.inl ne_a_b16)
  have X105_0 := X97_0.wr W105
  have X105_1 := X97_1.wr W105
  have X105_2 := X97_2.wr W105
  have S105_0 := S97_0.wr W105
  have V105_0 := V97_0.other W105 ne_b10_b16
  have V105_1 := V97_1.other W105 ne_b12_b16
  have V105_3 := V97_3.other W105 (Ne.symm ne_b16_b22)
  have V105_4 := V97_4.other W105 (Ne.symm ne_b16_b29)
  have V105_5 := V97_5.other W105 (Ne.symm ne_b16_b52)
  have V105_6 := V97_6.other W105 (Ne.symm ne_b16_b59)
  have V105_7 := V97_7.other W105 (Ne.symm ne_b16_b82)
  have V105_8 := V97_8.other W105 (Ne.symm ne_b16_b88)
  have z105 : n0 ≤ h105.size := by rw [W105.size]; exact z97
  have K105 : Keep h0 h105 [a] := K97.wr W105 (Or.inr sz_b16)
  have N105 := Fr.snoc X105 N97 g_b16
  have fold106 : ((2 : Int32) + (1 : Int32)) = (3 : Int32) := by decide +kernel
  have pre107 : ∀ tt_, Steps p.tables e below (T105.setTop (mkF m 78 #[.val (.ref a), .val (.long q), .second, .val (.int (3 : Int32)), .val (.int lw), .val (.int (3 : Int32)), .val (.int lw)] [])) tt_ → Steps p.tables e below (s₁.setTop (entryFrame m #[(.ref a), (.long q)] 7)) tt_ := fun tt_ kk_ => pre98 tt_ (by
    show Steps p.tables e below (T97.setTop (mkF m 153 #[.val (.ref a), .val (.long q), .second, .val (.int (3 : Int32)), .val (.int lw), .val (.int (2 : Int32)), .val (.int lw)] [])) _
    refine XS.iload X97.here hx rfl (hb hby own_d_prog_35_method_1_code_153) rfl ?_
    refine XS.sipush X97.here hx rfl (hb hby own_d_prog_35_method_1_code_155) ?_
    show Steps p.tables e below (T97.setTop (mkF m 158 #[.val (.ref a), .val (.long q), .second, .val (.int (3 : Int32)), .val (.int lw), .val (.int (2 : Int32)), .val (.int lw)] [(.int (32764 : Int32)), (.int lw)])) _
    refine XS.icmpNo X97.here hx rfl (hb hby own_d_prog_35_method_1_code_158) rfl (tlt (ht : (32764 : Int32) < lw)).2.2.2 ?_
    refine XS.aloadN X97.here hx rfl (hb hby own_d_prog_35_method_1_code_161) rfl rfl ?_
    refine st99 _ ?_
    refine XS.iconst X99.here hx rfl (hb hby own_d_prog_35_method_1_code_165) ?_
    refine XS.iload X99.here hx rfl (hb hby own_d_prog_35_method_1_code_166) rfl ?_
    refine XS.imul X99.here hx rfl (hb hby own_d_prog_35_method_1_code_168) rfl ?_
    show Steps p.tables e below (T99.setTop (mkF m 169 #[.val (.ref a), .val (.long q), .second, .val (.int (3 : Int32)), .val (.int lw), .val (.int (2 : Int32)), .val (.int lw)] [(.int ((2 : Int32) * (2 : Int32))), (.ref b16)])) _
    rw [fold100]
    show Steps p.tables e below (T99.setTop (mkF m 169 #[.val (.ref a), .val (.long q), .second, .val (.int (3 : Int32)), .val (.int lw), .val (.int (2 : Int32)), .val (.int lw)] [(.int (4 : Int32)), (.ref b16)])) _
    refine XS.iconst X99.here hx rfl (hb hby own_d_prog_35_method_1_code_169) ?_
    show Steps p.tables e below (T99.setTop (mkF m 170 #[.val (.ref a), .val (.long q), .second, .val (.int (3 : Int32)), .val (.int lw), .val (.int (2 : Int32)), .val (.int lw)] [(.int (1 : Int32)), (.int (4 : Int32)), (.ref b16)])) _
    refine XS.iadd X99.here hx rfl (hb hby own_d_prog_35_method_1_code_170) rfl ?_
    show Steps p.tables e below (T99.setTop (mkF m 171 #[.val (.ref a), .val (.long q), .second, .val (.int (3 : Int32)), .val (.int lw), .val (.int (2 : Int32)), .val (.int lw)] [(.int ((4 : Int32) + (1 : Int32))), (.ref b16)])) _
    rw [fold101]
    show Steps p.tables e below (T99.setTop (mkF m 171 #[.val (.ref a), .val (.long q), .second, .val (.int (3 : Int32)), .val (.int lw), .val (.int (2 : Int32)), .val (.int lw)] [(.int (5 : Int32)), (.ref b16)])) _
    refine XS.aloadN X99.here hx rfl (hb hby own_d_prog_35_method_1_code_171) rfl rfl ?_
    refine st102 _ ?_
    refine XS.iload X102.here hx rfl (hb hby own_d_prog_35_method_1_code_175) rfl ?_
    refine X102.aaload hx (j := (2 : Int32)) (v := (.ref b88)) (by rw [e102]; exact Ar103.1) (State.isArrayOf_alike hZ.alike Ar103.2.1) rfl Ar103.2.2 hin103 hat103 (g := (mkF m 177 #[.val (.ref a), .val (.long q), .second, .val (.int (3 : Int32)), .val (.int lw), .val (.int (2 : Int32)), .val (.int lw)] [(.int (2 : Int32)), (.ref b12), (.int (5 : Int32)), (.ref b16)])) rfl rfl (hb hby own_d_prog_35_method_1_code_177) _ ?_
    refine st105 _ ?_
    refine XS.iinc X105.here hx rfl (hb hby own_d_prog_35_method_1_code_179) rfl (l' := #[.val (.ref a), .val (.long q), .second, .val (.int (3 : Int32)), .val (.int lw), .val (.int ((2 : Int32) + (1 : Int32))), .val (.int lw)]) rfl ?_
    show Steps p.tables e below (T105.setTop (mkF m 182 #[.val (.ref a), .val (.long q), .second, .val (.int (3 : Int32)), .val (.int lw), .val (.int ((2 : Int32) + (1 : Int32))), .val (.int lw)] [])) _
    rw [fold106]
    show Steps p.tables e below (T105.setTop (mkF m 182 #[.val (.ref a), .val (.long q), .second, .val (.int (3 : Int32)), .val (.int lw), .val (.int (3 : Int32)), .val (.int lw)] [])) _
    refine XS.goto X105.here hx rfl (pc0 := 182) (pc' := 78) rfl (hb hby own_d_prog_35_method_1_code_182) (by decide) (by decide) ?_
    exact kk_)
  have pre108 : ∀ tt_, Steps p.tables e below (T105.setTop (mkF m 185 #[.val (.ref a), .val (.long q), .second, .val (.int (3 : Int32)), .val (.int lw), .val (.int (3 : Int32)), .val (.int lw)] [])) tt_ → Steps p.tables e below (s₁.setTop (entryFrame m #[(.ref a), (.long q)] 7)) tt_ := fun tt_ kk_ => pre107 tt_ (by
    show Steps p.tables e below (T105.setTop (mkF m 78 #[.val (.ref a), .val (.long q), .second, .val (.int (3 : Int32)), .val (.int lw), .val (.int (3 : Int32)), .val (.int lw)] [])) _
    refine XS.iload X105.here hx rfl (hb hby own_d_prog_35_method_1_code_78) rfl ?_
    refine XS.iloadN X105.here hx rfl (hb hby own_d_prog_35_method_1_code_80) rfl ?_
    refine XS.icmpYes X105.here hx rfl (pc0 := 81) (pc' := 185) rfl (hb hby own_d_prog_35_method_1_code_81) rfl (flt ((by decide) : ¬ ((3 : Int32) < (3 : Int32)))).2.1 (by decide) (by decide) ?_
    exact kk_)
  obtain ⟨fs, hr, hrun, hended, hW, hsame⟩ := X105.leave (v := none) (fun _ => rfl)
  refine ⟨_, _, pre108 _ ?_, hrun, hended, _, _, rfl, ?_, ⟨_, rfl⟩, hW, hsame.mono (by decide) (by decide)⟩
  · show Steps p.tables e below (T105.setTop (mkF m 185 #[.val (.ref a), .val (.long q), .second, .val (.int (3 : Int32)), .val (.int lw), .val (.int (3 : Int32)), .val (.int lw)] [])) _
    exact X105.returnOut hx Bd.returns (hb hby own_d_prog_35_method_1_code_185) hr
  · show QI Z a 3 lw h0 n0 _ T105.heap _
    rw [e105]
    have H1 : ∀ pg : Nat, pg < 3 → ∃ r, ([(.ref b22), (.ref b52), (.ref b82)] : List Value).getD pg .null = .ref r ∧ ([(.ref b22), (.ref b29), (.ref b52), (.ref b59), (.ref b82), (.ref b88)] : List Value).getD (2 * pg) .null = .ref r ∧ own_Len Z h105 r .long (own_lenH 3 lw pg) := by
      intro pg hp
      obtain rfl | rfl | rfl := own_lt3 hp
      · exact ⟨b22, rfl, rfl, own_Len.of (Arv.arh V105_3)⟩
      · exact ⟨b52, rfl, rfl, own_Len.of (Arv.arh V105_5)⟩
      · exact ⟨b82, rfl, rfl, own_Len.of (Arv.arh V105_7)⟩
    have H2 : ∀ pg : Nat, pg < 3 → (pg + 1 < 3 ∨ (32764 : Int32) < lw) → ∃ r, ([(.ref b29), (.ref b59), (.ref b88)] : List Value).getD pg .null = .ref r ∧ ([(.ref b22), (.ref b29), (.ref b52), (.ref b59), (.ref b82), (.ref b88)] : List Value).getD (2 * pg + 1) .null = .ref r ∧ own_Len Z h105 r .long (own_lenT 3 lw pg) := by
      intro pg hp hq
      obtain rfl | rfl | rfl := own_lt3 hp
      · exact ⟨b29, rfl, rfl, own_Len.of (Arv.arh V105_4)⟩
      · exact ⟨b59, rfl, rfl, own_Len.of (Arv.arh V105_6)⟩
      · exact ⟨b88, rfl, rfl, own_Len.of (Arv.arh V105_8)⟩
    exact ⟨rfl, N105, K105, b10, _, _, b12, _, _, b16, _, _, _, F105_0, F105_1, F105_2, V105_0, V105_1, V_b16_105, by rw [if_pos ht]; decide, H1, H2⟩
theorem own_ef_rmI_3_0 (m : MethodId) (y0 : Addr) (y1 : Int64) : entryFrame m #[(.ref y0), (.long y1)] 7 = mkF m 0 #[.val (.ref y0), .val (.long y1), .second, .unset, .unset, .unset, .unset] [] := by first | (simp [entryFrame, mkF, argsToLocals, Value.category]; done) | rfl
set_option maxRecDepth 65536 in
set_option maxHeartbeats 40000000 in
theorem rmI_3_0 (l : Launch) (Z : State) (a0 : Array Value) (hw : ∀ d ∈ tables_1, d.before a0 Z = true) (ws : List Jvm.Cond) (a : Addr) (q : Int64) (lw : Int32) (h0 : Heap) (n0 : Nat) (Z0 : n0 ≤ h0.size) (E_a : Exa Z h0 a "com/example/elderflower/elderflower/PagedWords") (g_a : n0 ≤ a) (F_size : Fld Z h0 a "com/example/elderflower/elderflower/PagedWords" "size" "J" (.long (0 : Int64))) (F_heads : Fld Z h0 a "com/example/elderflower/elderflower/PagedWords" "heads" "[[J" .null) (F_tails : Fld Z h0 a "com/example/elderflower/elderflower/PagedWords" "tails" "[[J" .null) (F_arrays : Fld Z h0 a "com/example/elderflower/elderflower/PagedWords" "arrays" "[[J" .null) (S_PAGE_SHIFT : Sta Z h0 "com/example/elderflower/elderflower/PagedWords" "PAGE_SHIFT" "I" (.int (15 : Int32))) (hpg : ((((q + (32768 : Int64)) - (1 : Int64)).toUInt64 >>> ((15 : Int32) &&& 0x3f).toInt64.toUInt64).toInt64).toInt32 = Int32.ofNat 3) (hlw : (q - Int64.ofNat ((3 - 1) * 32768)).toInt32 = lw) (hlb : own_LW lw) (ht : ¬ (32764 : Int32) < lw) :
    MetFree l (⟨"com/example/elderflower/elderflower/PagedWords", "<init>", "(J)V"⟩ : MethodName) (head1 (Jvm.Cond.code (⟨"com/example/elderflower/elderflower/PagedWords", "<init>", "(J)V"⟩ : MethodName) prog_35_method_1_code 7 none :: ws) ({ frames := 1, cells := 11, slots := 131088, locals := 15 } : Room)) (fun ar_ U => ar_ = #[(.ref a), (.long q)] ∧ Z.Warmed39 U.vm ∧ U.heap = h0) (fun _ _ _ _ _ => True) (fun _ U o U' => ∃ v L, o = .returned v ∧ QI Z a 3 lw h0 n0 v U'.heap L ∧ FrameEnd U o U' L ({ frames := 1, cells := 11, slots := 131088, locals := 15 } : Room).cells ({ frames := 1, cells := 11, slots := 131088, locals := 15 } : Room).slots) := by
  refine MetFree.of_bodySF (plainFor_of_name own_pn0) hisR ?_
  intro p e s m args below meth c s₁ Bd hml0 hP hK
  obtain ⟨rfl, hZ, hh⟩ := hP
  have hx := Bd.exec
  have hby := Bd.bytes
  have hml : c.maxLocals = 7 := hml0
  have hown : s.vm.findClass "com/example/elderflower/elderflower/PagedWords" = some m.cls := findClass_of_methodNamed Bd.named
  have hnm := (name_of_methodNamed Bd.named Bd.method).1
  have X0 : Stand p l e ({ frames := 1, cells := 11, slots := 131088, locals := 15 } : Room) s m #[(.ref a), (.long q)] below meth c s₁ [] 0 0 := Stand.of_body Bd
  have e0 : s₁.heap = h0 := by rw [← hh, Bd.state]; rfl
  have N0 := Fr.nil n0
  have pre0 : ∀ tt_, Steps p.tables e below (s₁.setTop (mkF m 0 #[.val (.ref a), .val (.long q), .second, .unset, .unset, .unset, .unset] [])) tt_ → Steps p.tables e below (s₁.setTop (entryFrame m #[(.ref a), (.long q)] 7)) tt_ := fun tt_ kk_ => castTop (own_ef_rmI_3_0 m a q) kk_
  obtain ⟨T1, X1, e1, st1⟩ := initO X0 hx hZ hown (hw _ (List.mem_of_getElem? (i := 8) rfl)) (hw _ (List.mem_of_getElem? (i := 9) rfl)) (hw _ (List.mem_of_getElem? (i := 10) rfl)) e0 (g := (mkF m 1 #[.val (.ref a), .val (.long q), .second, .unset, .unset, .unset, .unset] [(.ref a)])) rfl (by rw [hml]; rfl) rfl (hb hby own_d_prog_35_method_1_code_1) (by decide) (W := 0) (by show 2 * 0 + _ ≤ _; exact Nat.le_of_eq rfl) (by decide)
  obtain ⟨T2, X2, e2, st2⟩ := getS2 X1 hx hZ hown (host := "") (Or.inl (hw _ (List.mem_of_getElem? (i := 12) rfl))) Via.refl e1 S_PAGE_SHIFT (g := (mkF m 11 #[.val (.ref a), .val (.long q), .second, .unset, .unset, .unset, .unset] [(.long ((q + (32768 : Int64)) - (1 : Int64)))])) rfl (hb hby own_d_prog_35_method_1_code_11)
  have hpg' : (((((q + (32768 : Int64)) - (1 : Int64)).toUInt64 >>> ((15 : Int32) &&& 0x3f).toInt64.toUInt64).toInt64).toInt32) = (3 : Int32) := hpg
  have pre3 : ∀ tt_, Steps p.tables e below (T2.setTop (mkF m 16 #[.val (.ref a), .val (.long q), .second, .unset, .unset, .unset, .unset] [(.int (((((q + (32768 : Int64)) - (1 : Int64)).toUInt64 >>> ((15 : Int32) &&& 0x3f).toInt64.toUInt64).toInt64).toInt32))])) tt_ → Steps p.tables e below (s₁.setTop (entryFrame m #[(.ref a), (.long q)] 7)) tt_ := fun tt_ kk_ => pre0 tt_ (by
    show Steps p.tables e below (s₁.setTop (mkF m 0 #[.val (.ref a), .val (.long q), .second, .unset, .unset, .unset, .unset] [])) _
    refine XS.aloadN X0.here hx rfl (hb hby own_d_prog_35_method_1_code_0) rfl rfl ?_
    refine st1 _ ?_
    refine XS.lloadN X1.here hx rfl (hb hby own_d_prog_35_method_1_code_4) rfl ?_
    refine X1.ldc2Long hx hown (mvT hZ (hw _ (List.mem_of_getElem? (i := 11) rfl))) (g := (mkF m 5 #[.val (.ref a), .val (.long q), .second, .unset, .unset, .unset, .unset] [(.long q)])) rfl (hb hby own_d_prog_35_method_1_code_5) _ ?_
    refine XS.ladd X1.here hx rfl (hb hby own_d_prog_35_method_1_code_8) rfl ?_
    refine XS.lconst X1.here hx rfl (hb hby own_d_prog_35_method_1_code_9) ?_
    show Steps p.tables e below (T1.setTop (mkF m 10 #[.val (.ref a), .val (.long q), .second, .unset, .unset, .unset, .unset] [(.long (1 : Int64)), (.long (q + (32768 : Int64)))])) _
    refine XS.lsub X1.here hx rfl (hb hby own_d_prog_35_method_1_code_10) rfl ?_
    refine st2 _ ?_
    refine XS.lushr X2.here hx rfl (hb hby own_d_prog_35_method_1_code_14) rfl ?_
    refine XS.l2i X2.here hx rfl (hb hby own_d_prog_35_method_1_code_15) rfl ?_
    exact kk_)
  rw [hpg'] at pre3
  have fold4 : ((3 : Int32) - (1 : Int32)) = (2 : Int32) := by decide +kernel
  have fold5 : ((2 : Int32).toInt64) = (2 : Int64) := by decide +kernel
  obtain ⟨T6, X6, e6, st6⟩ := getS2 X2 hx hZ hown (host := "") (Or.inl (hw _ (List.mem_of_getElem? (i := 12) rfl))) Via.refl e2 S_PAGE_SHIFT (g := (mkF m 22 #[.val (.ref a), .val (.long q), .second, .val (.int (3 : Int32)), .unset, .unset, .unset] [(.long (2 : Int64)), (.long q)])) rfl (hb hby own_d_prog_35_method_1_code_22)
  have fold7 : ((2 : Int64) <<< ((15 : Int32) &&& 0x3f).toInt64) = (65536 : Int64) := by decide +kernel
  have hlw' : ((q - (65536 : Int64)).toInt32) = lw := by rw [← hlw]; rfl
  have pre8 : ∀ tt_, Steps p.tables e below (T6.setTop (mkF m 28 #[.val (.ref a), .val (.long q), .second, .val (.int (3 : Int32)), .unset, .unset, .unset] [(.int ((q - (65536 : Int64)).toInt32))])) tt_ → Steps p.tables e below (s₁.setTop (entryFrame m #[(.ref a), (.long q)] 7)) tt_ := fun tt_ kk_ => pre3 tt_ (by
    show Steps p.tables e below (T2.setTop (mkF m 16 #[.val (.ref a), .val (.long q), .second, .unset, .unset, .unset, .unset] [(.int (3 : Int32))])) _
    refine XS.istoreN X2.here hx rfl (hb hby own_d_prog_35_method_1_code_16) rfl (l' := #[.val (.ref a), .val (.long q), .second, .val (.int (3 : Int32)), .unset, .unset, .unset]) rfl ?_
    refine XS.lloadN X2.here hx rfl (hb hby own_d_prog_35_method_1_code_17) rfl ?_
    refine XS.iloadN X2.here hx rfl (hb hby own_d_prog_35_method_1_code_18) rfl ?_
    show Steps p.tables e below (T2.setTop (mkF m 19 #[.val (.ref a), .val (.long q), .second, .val (.int (3 : Int32)), .unset, .unset, .unset] [(.int (3 : Int32)), (.long q)])) _
    refine XS.iconst X2.here hx rfl (hb hby own_d_prog_35_method_1_code_19) ?_
    refine XS.isub X2.here hx rfl (hb hby own_d_prog_35_method_1_code_20) rfl ?_
    show Steps p.tables e below (T2.setTop (mkF m 21 #[.val (.ref a), .val (.long q), .second, .val (.int (3 : Int32)), .unset, .unset, .unset] [(.int ((3 : Int32) - (1 : Int32))), (.long q)])) _
    rw [fold4]
    show Steps p.tables e below (T2.setTop (mkF m 21 #[.val (.ref a), .val (.long q), .second, .val (.int (3 : Int32)), .unset, .unset, .unset] [(.int (2 : Int32)), (.long q)])) _
    refine XS.i2l X2.here hx rfl (hb hby own_d_prog_35_method_1_code_21) rfl ?_
    show Steps p.tables e below (T2.setTop (mkF m 22 #[.val (.ref a), .val (.long q), .second, .val (.int (3 : Int32)), .unset, .unset, .unset] [(.long ((2 : Int32).toInt64)), (.long q)])) _
    rw [fold5]
    show Steps p.tables e below (T2.setTop (mkF m 22 #[.val (.ref a), .val (.long q), .second, .val (.int (3 : Int32)), .unset, .unset, .unset] [(.long (2 : Int64)), (.long q)])) _
    refine st6 _ ?_
    refine XS.lshl X6.here hx rfl (hb hby own_d_prog_35_method_1_code_25) rfl ?_
    show Steps p.tables e below (T6.setTop (mkF m 26 #[.val (.ref a), .val (.long q), .second, .val (.int (3 : Int32)), .unset, .unset, .unset] [(.long ((2 : Int64) <<< ((15 : Int32) &&& 0x3f).toInt64)), (.long q)])) _
    rw [fold7]
    show Steps p.tables e below (T6.setTop (mkF m 26 #[.val (.ref a), .val (.long q), .second, .val (.int (3 : Int32)), .unset, .unset, .unset] [(.long (65536 : Int64)), (.long q)])) _
    refine XS.lsub X6.here hx rfl (hb hby own_d_prog_35_method_1_code_26) rfl ?_
    refine XS.l2i X6.here hx rfl (hb hby own_d_prog_35_method_1_code_27) rfl ?_
    exact kk_)
  rw [hlw'] at pre8
  obtain ⟨T9, h9, X9, e9, W9, st9⟩ := putF X6 hx hZ hown (host := "") (Or.inl (hw _ (List.mem_of_getElem? (i := 14) rfl))) Via.refl e6 F_size E_a (Or.inr ⟨(hw _ (List.mem_of_getElem? (i := 15) rfl)), rfl, hnm⟩) (hw _ (List.mem_of_getElem? (i := 3) rfl)) (ty := .long) (by decide) rfl rfl (g := (mkF m 32 #[.val (.ref a), .val (.long q), .second, .val (.int (3 : Int32)), .val (.int lw), .unset, .unset] [(.long q), (.ref a)])) rfl rfl (hb hby own_d_prog_35_method_1_code_32)
  have F9_0 := F_size.same W9
  have F9_1 := F_heads.other W9 (Or.inr (slot_ne (Or.inr (hw _ (List.mem_of_getElem? (i := 19) rfl))) (Or.inr (hw _ (List.mem_of_getElem? (i := 15) rfl))) (by decide) (t := (.array (.array .long))) (t' := .long) (by decide) (by decide)))
  have F9_2 := F_tails.other W9 (Or.inr (slot_ne (Or.inr (hw _ (List.mem_of_getElem? (i := 21) rfl))) (Or.inr (hw _ (List.mem_of_getElem? (i := 15) rfl))) (by decide) (t := (.array (.array .long))) (t' := .long) (by decide) (by decide)))
  have F9_3 := F_arrays.other W9 (Or.inr (slot_ne (Or.inr (hw _ (List.mem_of_getElem? (i := 23) rfl))) (Or.inr (hw _ (List.mem_of_getElem? (i := 15) rfl))) (by decide) (t := (.array (.array .long))) (t' := .long) (by decide) (by decide)))
  have X9_0 := E_a.wr W9
  have S9_0 := S_PAGE_SHIFT.wr W9
  have z9 : n0 ≤ h9.size := by rw [W9.size]; exact Z0
  have K9 : Keep h0 h9 [a] := (Keep.refl h0 [a]).wr W9 (Or.inl (by simp))
  have N9 := Fr.snoc X9 N0 g_a
  obtain ⟨T10, h10, k10, X10, e10, E10, A10, O10, st10⟩ := own_newRA X9 hx hZ hown (hw _ (List.mem_of_getElem? (i := 16) rfl)) (hw _ (List.mem_of_getElem? (i := 17) rfl)) (by decide +kernel) e9 (g := (mkF m 37 #[.val (.ref a), .val (.long q), .second, .val (.int (3 : Int32)), .val (.int lw), .unset, .unset] [(.int (3 : Int32)), (.ref a)])) rfl (hb hby own_d_prog_35_method_1_code_37) rfl (by decide) (cap := 3) (by decide) (by decide) (by decide) (by decide)
  obtain ⟨b10, g10⟩ : ∃ z, z = h9.size := ⟨_, rfl⟩
  rw [← g10] at A10 st10
  have g_b10 : n0 ≤ b10 := Nat.le_trans z9 (Nat.le_of_eq g10.symm)
  have sz_b10 : h0.size ≤ b10 := Nat.le_trans K9.1 (Nat.le_of_eq g10.symm)
  have F10_0 := F9_0.ext E10
  have F10_1 := F9_1.ext E10
  have F10_2 := F9_2.ext E10
  have F10_3 := F9_3.ext E10
  have X10_0 := X9_0.ext E10
  have S10_0 := S9_0.ext E10
  have z10 : n0 ≤ h10.size := Nat.le_trans z9 E10.1
  have K10 : Keep h0 h10 [a] := K9.ext E10
  have V_b10 : Arv Z h10 b10 k10 (.array .long) (3 : Int32) [.null, .null, .null] .null := (Arv.new A10 (by decide)).pad (pad_rep [] .null 3)
  obtain ⟨T11, h11, X11, e11, W11, st11⟩ := putF X10 hx hZ hown (host := "") (Or.inl (hw _ (List.mem_of_getElem? (i := 18) rfl))) Via.refl e10 F10_1 X10_0 (Or.inr ⟨(hw _ (List.mem_of_getElem? (i := 19) rfl)), rfl, hnm⟩) (hw _ (List.mem_of_getElem? (i := 3) rfl)) (ty := (.array (.array .long))) (by decide) rfl rfl (g := (mkF m 40 #[.val (.ref a), .val (.long q), .second, .val (.int (3 : Int32)), .val (.int lw), .unset, .unset] [(.ref b10), (.ref a)])) rfl rfl (hb hby own_d_prog_35_method_1_code_40)
  have F11_0 := F10_0.other W11 (Or.inr (slot_ne (Or.inr (hw _ (List.mem_of_getElem? (i := 15) rfl))) (Or.inr (hw _ (List.mem_of_getElem? (i := 19) rfl))) (by decide) (t := .long) (t' := (.array (.array .long))) (by decide) (by decide)))
  have F11_1 := F10_1.same W11
  have F11_2 := F10_2.other W11 (Or.inr (slot_ne (Or.inr (hw _ (List.mem_of_getElem? (i := 21) rfl))) (Or.inr (hw _ (List.mem_of_getElem? (i := 19) rfl))) (by decide) (t := (.array (.array .long))) (t' := (.array (.array .long))) (by decide) (by decide)))
  have F11_3 := F10_3.other W11 (Or.inr (slot_ne (Or.inr (hw _ (List.mem_of_getElem? (i := 23) rfl))) (Or.inr (hw _ (List.mem_of_getElem? (i := 19) rfl))) (by decide) (t := (.array (.array .long))) (t' := (.array (.array .long))) (by decide) (by decide)))
  have X11_0 := X10_0.wr W11
  have S11_0 := S10_0.wr W11
  have ne_a_b10 : a ≠ b10 := Nat.ne_of_lt (Nat.lt_of_lt_of_le (X9_0).lt (Nat.le_of_eq g10.symm))
  have V11_0 := V_b10.other W11 (Ne.symm ne_a_b10)
  have z11 : n0 ≤ h11.size := by rw [W11.size]; exact z10
  have K11 : Keep h0 h11 [a] := K10.wr W11 (Or.inl (by simp))
  have N11 := Fr.snoc X11 N9 g_a
  obtain ⟨T12, h12, k12, X12, e12, E12, A12, O12, st12⟩ := own_newRA X11 hx hZ hown (hw _ (List.mem_of_getElem? (i := 16) rfl)) (hw _ (List.mem_of_getElem? (i := 17) rfl)) (by decide +kernel) e11 (g := (mkF m 45 #[.val (.ref a), .val (.long q), .second, .val (.int (3 : Int32)), .val (.int lw), .unset, .unset] [(.int (3 : Int32)), (.ref a)])) rfl (hb hby own_d_prog_35_method_1_code_45) rfl (by decide) (cap := 3) (by decide) (by decide) (by decide) (by decide)
  obtain ⟨b12, g12⟩ : ∃ z, z = h11.size := ⟨_, rfl⟩
  rw [← g12] at A12 st12
  have g_b12 : n0 ≤ b12 := Nat.le_trans z11 (Nat.le_of_eq g12.symm)
  have sz_b12 : h0.size ≤ b12 := Nat.le_trans K11.1 (Nat.le_of_eq g12.symm)
  have F12_0 := F11_0.ext E12
  have F12_1 := F11_1.ext E12
  have F12_2 := F11_2.ext E12
  have F12_3 := F11_3.ext E12
  have X12_0 := X11_0.ext E12
  have S12_0 := S11_0.ext E12
  have V12_0 := V11_0.ext E12
  have z12 : n0 ≤ h12.size := Nat.le_trans z11 E12.1
  have K12 : Keep h0 h12 [a] := K11.ext E12
  have V_b12 : Arv Z h12 b12 k12 (.array .long) (3 : Int32) [.null, .null, .null] .null := (Arv.new A12 (by decide)).pad (pad_rep [] .null 3)
  obtain ⟨T13, h13, X13, e13, W13, st13⟩ := putF X12 hx hZ hown (host := "") (Or.inl (hw _ (List.mem_of_getElem? (i := 20) rfl))) Via.refl e12 F12_2 X12_0 (Or.inr ⟨(hw _ (List.mem_of_getElem? (i := 21) rfl)), rfl, hnm⟩) (hw _ (List.mem_of_getElem? (i := 3) rfl)) (ty := (.array (.array .long))) (by decide) rfl rfl (g := (mkF m 48 #[.val (.ref a), .val (.long q), .second, .val (.int (3 : Int32)), .val (.int lw), .unset, .unset] [(.ref b12), (.ref a)])) rfl rfl (hb hby own_d_prog_35_method_1_code_48)
  have F13_0 := F12_0.other W13 (Or.inr (slot_ne (Or.inr (hw _ (List.mem_of_getElem? (i := 15) rfl))) (Or.inr (hw _ (List.mem_of_getElem? (i := 21) rfl))) (by decide) (t := .long) (t' := (.array (.array .long))) (by decide) (by decide)))
  have F13_1 := F12_1.other W13 (Or.inr (slot_ne (Or.inr (hw _ (List.mem_of_getElem? (i := 19) rfl))) (Or.inr (hw _ (List.mem_of_getElem? (i := 21) rfl))) (by decide) (t := (.array (.array .long))) (t' := (.array (.array .long))) (by decide) (by decide)))
  have F13_2 := F12_2.same W13
  have F13_3 := F12_3.other W13 (Or.inr (slot_ne (Or.inr (hw _ (List.mem_of_getElem? (i := 23) rfl))) (Or.inr (hw _ (List.mem_of_getElem? (i := 21) rfl))) (by decide) (t := (.array (.array .long))) (t' := (.array (.array .long))) (by decide) (by decide)))
  have X13_0 := X12_0.wr W13
  have S13_0 := S12_0.wr W13
  have V13_0 := V12_0.other W13 (Ne.symm ne_a_b10)
  have ne_a_b12 : a ≠ b12 := Nat.ne_of_lt (Nat.lt_of_lt_of_le (X11_0).lt (Nat.le_of_eq g12.symm))
  have V13_1 := V_b12.other W13 (Ne.symm ne_a_b12)
  have z13 : n0 ≤ h13.size := by rw [W13.size]; exact z12
  have K13 : Keep h0 h13 [a] := K12.wr W13 (Or.inl (by simp))
  have N13 := Fr.snoc X13 N11 g_a
  have fold14 : ((2 : Int32) * (3 : Int32)) = (6 : Int32) := by decide +kernel
  have fold15 : ((6 : Int32) - (1 : Int32)) = (5 : Int32) := by decide +kernel
  obtain ⟨T16, h16, k16, X16, e16, E16, A16, O16, st16⟩ := own_newRA X13 hx hZ hown (hw _ (List.mem_of_getElem? (i := 16) rfl)) (hw _ (List.mem_of_getElem? (i := 17) rfl)) (by decide +kernel) e13 (g := (mkF m 69 #[.val (.ref a), .val (.long q), .second, .val (.int (3 : Int32)), .val (.int lw), .unset, .unset] [(.int (5 : Int32)), (.ref a)])) rfl (hb hby own_d_prog_35_method_1_code_69) rfl (by decide) (cap := 5) (by decide) (by decide) (by decide) (by decide)
  obtain ⟨b16, g16⟩ : ∃ z, z = h13.size := ⟨_, rfl⟩
  rw [← g16] at A16 st16
  have g_b16 : n0 ≤ b16 := Nat.le_trans z13 (Nat.le_of_eq g16.symm)
  have sz_b16 : h0.size ≤ b16 := Nat.le_trans K13.1 (Nat.le_of_eq g16.symm)
  have F16_0 := F13_0.ext E16
  have F16_1 := F13_1.ext E16
  have F16_2 := F13_2.ext E16
  have F16_3 := F13_3.ext E16
  have X16_0 := X13_0.ext E16
  have S16_0 := S13_0.ext E16
  have V16_0 := V13_0.ext E16
  have V16_1 := V13_1.ext E16
  have z16 : n0 ≤ h16.size := Nat.le_trans z13 E16.1
  have K16 : Keep h0 h16 [a] := K13.ext E16
  have V_b16 : Arv Z h16 b16 k16 (.array .long) (5 : Int32) [.null, .null, .null, .null, .null] .null := (Arv.new A16 (by decide)).pad (pad_rep [] .null 5)
  obtain ⟨T17, h17, X17, e17, W17, st17⟩ := putF X16 hx hZ hown (host := "") (Or.inl (hw _ (List.mem_of_getElem? (i := 22) rfl))) Via.refl e16 F16_3 X16_0 (Or.inr ⟨(hw _ (List.mem_of_getElem? (i := 23) rfl)), rfl, hnm⟩) (hw _ (List.mem_of_getElem? (i := 3) rfl)) (ty := (.array (.array .long))) (by decide) rfl rfl (g := (mkF m 72 #[.val (.ref a), .val (.long q), .second, .val (.int (3 : Int32)), .val (.int lw), .unset, .unset] [(.ref b16), (.ref a)])) rfl rfl (hb hby own_d_prog_35_method_1_code_72)
  have F17_0 := F16_0.other W17 (Or.inr (slot_ne (Or.inr (hw _ (List.mem_of_getElem? (i := 15) rfl))) (Or.inr (hw _ (List.mem_of_getElem? (i := 23) rfl))) (by decide) (t := .long) (t' := (.array (.array .long))) (by decide) (by decide)))
  have F17_1 := F16_1.other W17 (Or.inr (slot_ne (Or.inr (hw _ (List.mem_of_getElem? (i := 19) rfl))) (Or.inr (hw _ (List.mem_of_getElem? (i := 23) rfl))) (by decide) (t := (.array (.array .long))) (t' := (.array (.array .long))) (by decide) (by decide)))
  have F17_2 := F16_2.other W17 (Or.inr (slot_ne (Or.inr (hw _ (List.mem_of_getElem? (i := 21) rfl))) (Or.inr (hw _ (List.mem_of_getElem? (i := 23) rfl))) (by decide) (t := (.array (.array .long))) (t' := (.array (.array .long))) (by decide) (by decide)))
  have F17_3 := F16_3.same W17
  have X17_0 := X16_0.wr W17
  have S17_0 := S16_0.wr W17
  have V17_0 := V16_0.other W17 (Ne.symm ne_a_b10)
  have V17_1 := V16_1.other W17 (Ne.symm ne_a_b12)
  have ne_a_b16 : a ≠ b16 := Nat.ne_of_lt (Nat.lt_of_lt_of_le (X13_0).lt (Nat.le_of_eq g16.symm))
  have V17_2 := V_b16.other W17 (Ne.symm ne_a_b16)
  have z17 : n0 ≤ h17.size := by rw [W17.size]; exact z16
  have K17 : Keep h0 h17 [a] := K16.wr W17 (Or.inl (by simp))
  have N17 := Fr.snoc X17 N13 g_a
  have pre18 : ∀ tt_, Steps p.tables e below (T17.setTop (mkF m 78 #[.val (.ref a), .val (.long q), .second, .val (.int (3 : Int32)), .val (.int lw), .val (.int (0 : Int32)), .unset] [])) tt_ → Steps p.tables e below (s₁.setTop (entryFrame m #[(.ref a), (.long q)] 7)) tt_ := fun tt_ kk_ => pre8 tt_ (by
    show Steps p.tables e below (T6.setTop (mkF m 28 #[.val (.ref a), .val (.long q), .second, .val (.int (3 : Int32)), .unset, .unset, .unset] [(.int lw)])) _
    refine XS.istore X6.here hx rfl (hb hby own_d_prog_35_method_1_code_28) rfl (l' := #[.val (.ref a), .val (.long q), .second, .val (.int (3 : Int32)), .val (.int lw), .unset, .unset]) rfl ?_
    refine XS.aloadN X6.here hx rfl (hb hby own_d_prog_35_method_1_code_30) rfl rfl ?_
    refine XS.lloadN X6.here hx rfl (hb hby own_d_prog_35_method_1_code_31) rfl ?_
    refine st9 _ ?_
    refine XS.aloadN X9.here hx rfl (hb hby own_d_prog_35_method_1_code_35) rfl rfl ?_
    refine XS.iloadN X9.here hx rfl (hb hby own_d_prog_35_method_1_code_36) rfl ?_
    refine st10 _ ?_
    refine st11 _ ?_
    refine XS.aloadN X11.here hx rfl (hb hby own_d_prog_35_method_1_code_43) rfl rfl ?_
    show Steps p.tables e below (T11.setTop (mkF m 44 #[.val (.ref a), .val (.long q), .second, .val (.int (3 : Int32)), .val (.int lw), .unset, .unset] [(.ref a)])) _
    refine XS.iloadN X11.here hx rfl (hb hby own_d_prog_35_method_1_code_44) rfl ?_
    refine st12 _ ?_
    refine st13 _ ?_
    refine XS.aloadN X13.here hx rfl (hb hby own_d_prog_35_method_1_code_51) rfl rfl ?_
    refine XS.iconst X13.here hx rfl (hb hby own_d_prog_35_method_1_code_52) ?_
    refine XS.iloadN X13.here hx rfl (hb hby own_d_prog_35_method_1_code_53) rfl ?_
    refine XS.imul X13.here hx rfl (hb hby own_d_prog_35_method_1_code_54) rfl ?_
    show Steps p.tables e below (T13.setTop (mkF m 55 #[.val (.ref a), .val (.long q), .second, .val (.int (3 : Int32)), .val (.int lw), .unset, .unset] [(.int ((2 : Int32) * (3 : Int32))), (.ref a)])) _
    rw [fold14]
    show Steps p.tables e below (T13.setTop (mkF m 55 #[.val (.ref a), .val (.long q), .second, .val (.int (3 : Int32)), .val (.int lw), .unset, .unset] [(.int (6 : Int32)), (.ref a)])) _
    refine XS.iload X13.here hx rfl (hb hby own_d_prog_35_method_1_code_55) rfl ?_
    show Steps p.tables e below (T13.setTop (mkF m 57 #[.val (.ref a), .val (.long q), .second, .val (.int (3 : Int32)), .val (.int lw), .unset, .unset] [(.int lw), (.int (6 : Int32)), (.ref a)])) _
    refine XS.sipush X13.here hx rfl (hb hby own_d_prog_35_method_1_code_57) ?_
    refine XS.icmpYes X13.here hx rfl (pc0 := 60) (pc' := 67) rfl (hb hby own_d_prog_35_method_1_code_60) rfl (flt (ht : ¬ ((32764 : Int32) < lw))).2.2.2 (by decide) (by decide) ?_
    refine XS.iconst X13.here hx rfl (hb hby own_d_prog_35_method_1_code_67) ?_
    refine XS.isub X13.here hx rfl (hb hby own_d_prog_35_method_1_code_68) rfl ?_
    show Steps p.tables e below (T13.setTop (mkF m 69 #[.val (.ref a), .val (.long q), .second, .val (.int (3 : Int32)), .val (.int lw), .unset, .unset] [(.int ((6 : Int32) - (1 : Int32))), (.ref a)])) _
    rw [fold15]
    show Steps p.tables e below (T13.setTop (mkF m 69 #[.val (.ref a), .val (.long q), .second, .val (.int (3 : Int32)), .val (.int lw), .unset, .unset] [(.int (5 : Int32)), (.ref a)])) _
    refine st16 _ ?_
    refine st17 _ ?_
    refine XS.iconst X17.here hx rfl (hb hby own_d_prog_35_method_1_code_75) ?_
    refine XS.istore X17.here hx rfl (hb hby own_d_prog_35_method_1_code_76) rfl (l' := #[.val (.ref a), .val (.long q), .second, .val (.int (3 : Int32)), .val (.int lw), .val (.int (0 : Int32)), .unset]) rfl ?_
    exact kk_)
  have fold19 : ((3 : Int32) - (1 : Int32)) = (2 : Int32) := by decide +kernel
  obtain ⟨T20, X20, e20, st20⟩ := getF X17 hx hZ hown (host := "") (Or.inl (hw _ (List.mem_of_getElem? (i := 18) rfl))) Via.refl e17 F17_1 (g := (mkF m 102 #[.val (.ref a), .val (.long q), .second, .val (.int (3 : Int32)), .val (.int lw), .val (.int (0 : Int32)), .val (.int (32768 : Int32))] [(.ref a)])) rfl rfl (hb hby own_d_prog_35_method_1_code_102)
  obtain ⟨_, _, ⟨T21, L21, k21, n21⟩, -, X21, ⟨Lc21, hQ21, l21, y21, z21⟩, st21⟩ := Jvm.LawKit.callS X20 hx (y := (⟨"java/lang/Math", "min", "(II)I"⟩ : MethodName)) hown (mvT hZ (hw _ (List.mem_of_getElem? (i := 24) rfl))) (mvT hZ (hw _ (List.mem_of_getElem? (i := 25) rfl))) (mvT hZ (hw _ (List.mem_of_getElem? (i := 26) rfl))) (mvT hZ (hw _ (List.mem_of_getElem? (i := 27) rfl))) (by decide) (backOf (W := 2) (rmMin l Z a0 hw [] (32768 : Int32) (32764 : Int32) (32764 : Int32) h17 n0 z17 (by decide)) hZ (hw _ (List.mem_of_getElem? (i := 27) rfl)) (hw _ (List.mem_of_getElem? (i := 26) rfl)) (by decide) (by decide)) (g := (mkF m 112 #[.val (.ref a), .val (.long q), .second, .val (.int (3 : Int32)), .val (.int lw), .val (.int (0 : Int32)), .val (.int (32768 : Int32))] [(.int (32764 : Int32)), (.int (32768 : Int32)), (.int (0 : Int32)), (.ref b10)])) rfl (by rw [hml]; rfl) (argsL := [(.int (32768 : Int32)), (.int (32764 : Int32))]) (rest := [(.int (0 : Int32)), (.ref b10)]) (lenOf own_pd0 rfl) rfl (by show 2 * 0 + _ ≤ _; exact Nat.le_of_eq rfl) (hb hby own_d_prog_35_method_1_code_112) (fun _ _ => ⟨rfl, e20, (by decide : 3 + 0 ≤ _), (by decide : 11 + 0 ≤ _)⟩)
  dsimp only [Pt.U, Pt.locs, Pt.cells, Pt.slots] at X21 l21 y21 z21 st21 hQ21
  replace l21 := l21.symm; subst l21 y21 z21
  obtain ⟨rfl, N21q, e21⟩ := hQ21
  have N21 := Fr.app N17 N21q
  obtain ⟨T22, h22, k22, X22, e22, E22, A22, Ea22, st22⟩ := newPE X21 hx hZ (hw _ (List.mem_of_getElem? (i := 28) rfl)) e21 (g := (mkF m 115 #[.val (.ref a), .val (.long q), .second, .val (.int (3 : Int32)), .val (.int lw), .val (.int (0 : Int32)), .val (.int (32768 : Int32))] [(.int (32764 : Int32)), (.int (0 : Int32)), (.ref b10)])) rfl (hb hby own_d_prog_35_method_1_code_115) rfl (by decide) (cap := 32764) (by decide) (by decide) (by decide) (by decide) (ad := "[J") (by decide +kernel)
  obtain ⟨b22, g22⟩ : ∃ z, z = h17.size := ⟨_, rfl⟩
  rw [← g22] at A22 st22 Ea22
  have g_b22 : n0 ≤ b22 := Nat.le_trans z17 (Nat.le_of_eq g22.symm)
  have sz_b22 : h0.size ≤ b22 := Nat.le_trans K17.1 (Nat.le_of_eq g22.symm)
  have F22_0 := F17_0.ext E22
  have F22_1 := F17_1.ext E22
  have F22_2 := F17_2.ext E22
  have F22_3 := F17_3.ext E22
  have X22_0 := X17_0.ext E22
  have S22_0 := S17_0.ext E22
  have V22_0 := V17_0.ext E22
  have V22_1 := V17_1.ext E22
  have V22_2 := V17_2.ext E22
  have z22 : n0 ≤ h22.size := Nat.le_trans z17 E22.1
  have K22 : Keep h0 h22 [a] := K17.ext E22
  have V_b22 : Arv Z h22 b22 k22 .long (32764 : Int32) [] (.long (0 : Int64)) := (Arv.new A22 (by decide)).pad (pad_rep [] (.long (0 : Int64)) 0)
  obtain ⟨cl23, Ar23, q23, S23, M23, H23, G23⟩ := id V22_0
  have hin23 : ¬ ((0 : Int32) < 0 ∨ cl23.slots.size ≤ ((0 : Int32)).toNatClampNeg) := inb_of S23 ⟨by decide, by decide⟩
  obtain ⟨T24, h24, X24, e24, W24, st24⟩ := stR X22 hx hZ e22 Ar23 (j := (0 : Int32)) hin23 rfl (own_stoA Ar23 q23 O10 (Ins.self Ea22)) (g := (mkF m 117 #[.val (.ref a), .val (.long q), .second, .val (.int (3 : Int32)), .val (.int lw), .val (.int (0 : Int32)), .val (.int (32768 : Int32))] [(.ref b22), (.int (0 : Int32)), (.ref b10)])) rfl rfl (hb hby own_d_prog_35_method_1_code_117)
  have V_b10_24 : Arv Z h24 b10 k10 (.array .long) (3 : Int32) [(.ref b22), .null, .null] .null := Arv.set Ar23 q23 S23 M23 H23 G23 rfl W24 0 rfl (Nat.le_of_ble_eq_true rfl)
  have F24_0 := F22_0.other W24 (Or.inl ne_a_b10)
  have F24_1 := F22_1.other W24 (Or.inl ne_a_b10)
  have F24_2 := F22_2.other W24 (Or.inl ne_a_b10)
  have F24_3 := F22_3.other W24 (Or.inl ne_a_b10)
  have X24_0 := X22_0.wr W24
  have X24_1 := Ea22.wr W24
  have S24_0 := S22_0.wr W24
  have ne_b10_b12 : b10 ≠ b12 := Nat.ne_of_lt (Nat.lt_of_lt_of_le (V11_0).lt (Nat.le_of_eq g12.symm))
  have V24_1 := V22_1.other W24 (Ne.symm ne_b10_b12)
  have ne_b10_b16 : b10 ≠ b16 := Nat.ne_of_lt (Nat.lt_of_lt_of_le (V13_0).lt (Nat.le_of_eq g16.symm))
  have V24_2 := V22_2.other W24 (Ne.symm ne_b10_b16)
  have ne_b10_b22 : b10 ≠ b22 := Nat.ne_of_lt (Nat.lt_of_lt_of_le (V17_0).lt (Nat.le_of_eq g22.symm))
  have V24_3 := V_b22.other W24 (Ne.symm ne_b10_b22)
  have z24 : n0 ≤ h24.size := by rw [W24.size]; exact z22
  have K24 : Keep h0 h24 [a] := K22.wr W24 (Or.inr sz_b10)
  have N24 := Fr.snoc X24 N21 g_b10
  have pre25 : ∀ tt_, Steps p.tables e below (T24.setTop (mkF m 118 #[.val (.ref a), .val (.long q), .second, .val (.int (3 : Int32)), .val (.int lw), .val (.int (0 : Int32)), .val (.int (32768 : Int32))] [])) tt_ → Steps p.tables e below (s₁.setTop (entryFrame m #[(.ref a), (.long q)] 7)) tt_ := fun tt_ kk_ => pre18 tt_ (by
    show Steps p.tables e below (T17.setTop (mkF m 78 #[.val (.ref a), .val (.long q), .second, .val (.int (3 : Int32)), .val (.int lw), .val (.int (0 : Int32)), .unset] [])) _
    refine XS.iload X17.here hx rfl (hb hby own_d_prog_35_method_1_code_78) rfl ?_
    refine XS.iloadN X17.here hx rfl (hb hby own_d_prog_35_method_1_code_80) rfl ?_
    refine XS.icmpNo X17.here hx rfl (hb hby own_d_prog_35_method_1_code_81) rfl (tlt ((by decide) : (0 : Int32) < (3 : Int32))).2.1 ?_
    refine XS.iload X17.here hx rfl (hb hby own_d_prog_35_method_1_code_84) rfl ?_
    refine XS.iloadN X17.here hx rfl (hb hby own_d_prog_35_method_1_code_86) rfl ?_
    refine XS.iconst X17.here hx rfl (hb hby own_d_prog_35_method_1_code_87) ?_
    show Steps p.tables e below (T17.setTop (mkF m 88 #[.val (.ref a), .val (.long q), .second, .val (.int (3 : Int32)), .val (.int lw), .val (.int (0 : Int32)), .unset] [(.int (1 : Int32)), (.int (3 : Int32)), (.int (0 : Int32))])) _
    refine XS.isub X17.here hx rfl (hb hby own_d_prog_35_method_1_code_88) rfl ?_
    show Steps p.tables e below (T17.setTop (mkF m 89 #[.val (.ref a), .val (.long q), .second, .val (.int (3 : Int32)), .val (.int lw), .val (.int (0 : Int32)), .unset] [(.int ((3 : Int32) - (1 : Int32))), (.int (0 : Int32))])) _
    rw [fold19]
    show Steps p.tables e below (T17.setTop (mkF m 89 #[.val (.ref a), .val (.long q), .second, .val (.int (3 : Int32)), .val (.int lw), .val (.int (0 : Int32)), .unset] [(.int (2 : Int32)), (.int (0 : Int32))])) _
    refine XS.icmpNo X17.here hx rfl (hb hby own_d_prog_35_method_1_code_89) rfl (tlt ((by decide) : (0 : Int32) < (2 : Int32))).2.1 ?_
    refine X17.ldcInt hx hown (mvT hZ (hw _ (List.mem_of_getElem? (i := 52) rfl))) (g := (mkF m 92 #[.val (.ref a), .val (.long q), .second, .val (.int (3 : Int32)), .val (.int lw), .val (.int (0 : Int32)), .unset] [])) rfl (hb hby own_d_prog_35_method_1_code_92) _ ?_
    refine XS.goto X17.here hx rfl (pc0 := 94) (pc' := 99) rfl (hb hby own_d_prog_35_method_1_code_94) (by decide) (by decide) ?_
    refine XS.istore X17.here hx rfl (hb hby own_d_prog_35_method_1_code_99) rfl (l' := #[.val (.ref a), .val (.long q), .second, .val (.int (3 : Int32)), .val (.int lw), .val (.int (0 : Int32)), .val (.int (32768 : Int32))]) rfl ?_
    refine XS.aloadN X17.here hx rfl (hb hby own_d_prog_35_method_1_code_101) rfl rfl ?_
    refine st20 _ ?_
    show Steps p.tables e below (T20.setTop (mkF m 105 #[.val (.ref a), .val (.long q), .second, .val (.int (3 : Int32)), .val (.int lw), .val (.int (0 : Int32)), .val (.int (32768 : Int32))] [(.ref b10)])) _
    refine XS.iload X20.here hx rfl (hb hby own_d_prog_35_method_1_code_105) rfl ?_
    refine XS.iload X20.here hx rfl (hb hby own_d_prog_35_method_1_code_107) rfl ?_
    refine XS.sipush X20.here hx rfl (hb hby own_d_prog_35_method_1_code_109) ?_
    show Steps p.tables e below (T20.setTop (mkF m 112 #[.val (.ref a), .val (.long q), .second, .val (.int (3 : Int32)), .val (.int lw), .val (.int (0 : Int32)), .val (.int (32768 : Int32))] [(.int (32764 : Int32)), (.int (32768 : Int32)), (.int (0 : Int32)), (.ref b10)])) _
    refine st21 _ ?_
    refine st22 _ ?_
    refine st24 _ ?_
    exact kk_)
  obtain ⟨T26, X26, e26, st26⟩ := getF X24 hx hZ hown (host := "") (Or.inl (hw _ (List.mem_of_getElem? (i := 20) rfl))) Via.refl e24 F24_2 (g := (mkF m 119 #[.val (.ref a), .val (.long q), .second, .val (.int (3 : Int32)), .val (.int lw), .val (.int (0 : Int32)), .val (.int (32768 : Int32))] [(.ref a)])) rfl rfl (hb hby own_d_prog_35_method_1_code_119)
  have fold27 : ((32768 : Int32) - (32764 : Int32)) = (4 : Int32) := by decide +kernel
  obtain ⟨_, _, ⟨T28, L28, k28, n28⟩, -, X28, ⟨Lc28, hQ28, l28, y28, z28⟩, st28⟩ := Jvm.LawKit.callS X26 hx (y := (⟨"java/lang/Math", "max", "(II)I"⟩ : MethodName)) hown (mvT hZ (hw _ (List.mem_of_getElem? (i := 30) rfl))) (mvT hZ (hw _ (List.mem_of_getElem? (i := 31) rfl))) (mvT hZ (hw _ (List.mem_of_getElem? (i := 26) rfl))) (mvT hZ (hw _ (List.mem_of_getElem? (i := 32) rfl))) (by decide) (backOf (W := 2) (rmMax l Z a0 hw [] (4 : Int32) (0 : Int32) (4 : Int32) h24 n0 z24 (by decide)) hZ (hw _ (List.mem_of_getElem? (i := 32) rfl)) (hw _ (List.mem_of_getElem? (i := 26) rfl)) (by decide) (by decide)) (g := (mkF m 131 #[.val (.ref a), .val (.long q), .second, .val (.int (3 : Int32)), .val (.int lw), .val (.int (0 : Int32)), .val (.int (32768 : Int32))] [(.int (0 : Int32)), (.int (4 : Int32)), (.int (0 : Int32)), (.ref b12)])) rfl (by rw [hml]; rfl) (argsL := [(.int (4 : Int32)), (.int (0 : Int32))]) (rest := [(.int (0 : Int32)), (.ref b12)]) (lenOf own_pd0 rfl) rfl (by show 2 * 0 + _ ≤ _; exact Nat.le_of_eq rfl) (hb hby own_d_prog_35_method_1_code_131) (fun _ _ => ⟨rfl, e26, (by decide : 4 + 0 ≤ _), (by decide : 32775 + 0 ≤ _)⟩)
  dsimp only [Pt.U, Pt.locs, Pt.cells, Pt.slots] at X28 l28 y28 z28 st28 hQ28
  replace l28 := l28.symm; subst l28 y28 z28
  obtain ⟨rfl, N28q, e28⟩ := hQ28
  have N28 := Fr.app N24 N28q
  obtain ⟨T29, h29, k29, X29, e29, E29, A29, Ea29, st29⟩ := newPE X28 hx hZ (hw _ (List.mem_of_getElem? (i := 28) rfl)) e28 (g := (mkF m 134 #[.val (.ref a), .val (.long q), .second, .val (.int (3 : Int32)), .val (.int lw), .val (.int (0 : Int32)), .val (.int (32768 : Int32))] [(.int (4 : Int32)), (.int (0 : Int32)), (.ref b12)])) rfl (hb hby own_d_prog_35_method_1_code_134) rfl (by decide) (cap := 4) (by decide) (by decide) (by decide) (by decide) (ad := "[J") (by decide +kernel)
  obtain ⟨b29, g29⟩ : ∃ z, z = h24.size := ⟨_, rfl⟩
  rw [← g29] at A29 st29 Ea29
  have g_b29 : n0 ≤ b29 := Nat.le_trans z24 (Nat.le_of_eq g29.symm)
  have sz_b29 : h0.size ≤ b29 := Nat.le_trans K24.1 (Nat.le_of_eq g29.symm)
  have F29_0 := F24_0.ext E29
  have F29_1 := F24_1.ext E29
  have F29_2 := F24_2.ext E29
  have F29_3 := F24_3.ext E29
  have X29_0 := X24_0.ext E29
  have X29_1 := X24_1.ext E29
  have S29_0 := S24_0.ext E29
  have V29_0 := V_b10_24.ext E29
  have V29_1 := V24_1.ext E29
  have V29_2 := V24_2.ext E29
  have V29_3 := V24_3.ext E29
  have z29 : n0 ≤ h29.size := Nat.le_trans z24 E29.1
  have K29 : Keep h0 h29 [a] := K24.ext E29
  have V_b29 : Arv Z h29 b29 k29 .long (4 : Int32) [] (.long (0 : Int64)) := (Arv.new A29 (by decide)).pad (pad_rep [] (.long (0 : Int64)) 0)
  obtain ⟨cl30, Ar30, q30, S30, M30, H30, G30⟩ := id V29_1
  have hin30 : ¬ ((0 : Int32) < 0 ∨ cl30.slots.size ≤ ((0 : Int32)).toNatClampNeg) := inb_of S30 ⟨by decide, by decide⟩
  obtain ⟨T31, h31, X31, e31, W31, st31⟩ := stR X29 hx hZ e29 Ar30 (j := (0 : Int32)) hin30 rfl (own_stoA Ar30 q30 O12 (Ins.self Ea29)) (g := (mkF m 136 #[.val (.ref a), .val (.long q), .second, .val (.int (3 : Int32)), .val (.int lw), .val (.int (0 : Int32)), .val (.int (32768 : Int32))] [(.ref b29), (.int (0 : Int32)), (.ref b12)])) rfl rfl (hb hby own_d_prog_35_method_1_code_136)
  have V_b12_31 : Arv Z h31 b12 k12 (.array .long) (3 : Int32) [(.ref b29), .null, .null] .null := Arv.set Ar30 q30 S30 M30 H30 G30 rfl W31 0 rfl (Nat.le_of_ble_eq_true rfl)
  have F31_0 := F29_0.other W31 (Or.inl ne_a_b12)
  have F31_1 := F29_1.other W31 (Or.inl ne_a_b12)
  have F31_2 := F29_2.other W31 (Or.inl ne_a_b12)
  have F31_3 := F29_3.other W31 (Or.inl ne_a_b12)
  have X31_0 := X29_0.wr W31
  have X31_1 := X29_1.wr W31
  have X31_2 := Ea29.wr W31
  have S31_0 := S29_0.wr W31
  have V31_0 := V29_0.other W31 ne_b10_b12
  have ne_b12_b16 : b12 ≠ b16 := Nat.ne_of_lt (Nat.lt_of_lt_of_le (V13_1).lt (Nat.le_of_eq g16.symm))
  have V31_2 := V29_2.other W31 (Ne.symm ne_b12_b16)
  have ne_b12_b22 : b12 ≠ b22 := Nat.ne_of_lt (Nat.lt_of_lt_of_le (V17_1).lt (Nat.le_of_eq g22.symm))
  have V31_3 := V29_3.other W31 (Ne.symm ne_b12_b22)
  have ne_b12_b29 : b12 ≠ b29 := Nat.ne_of_lt (Nat.lt_of_lt_of_le (V24_1).lt (Nat.le_of_eq g29.symm))
  have V31_4 := V_b29.other W31 (Ne.symm ne_b12_b29)
  have z31 : n0 ≤ h31.size := by rw [W31.size]; exact z29
  have K31 : Keep h0 h31 [a] := K29.wr W31 (Or.inr sz_b12)
  have N31 := Fr.snoc X31 N28 g_b12
  have pre32 : ∀ tt_, Steps p.tables e below (T31.setTop (mkF m 137 #[.val (.ref a), .val (.long q), .second, .val (.int (3 : Int32)), .val (.int lw), .val (.int (0 : Int32)), .val (.int (32768 : Int32))] [])) tt_ → Steps p.tables e below (s₁.setTop (entryFrame m #[(.ref a), (.long q)] 7)) tt_ := fun tt_ kk_ => pre25 tt_ (by
    show Steps p.tables e below (T24.setTop (mkF m 118 #[.val (.ref a), .val (.long q), .second, .val (.int (3 : Int32)), .val (.int lw), .val (.int (0 : Int32)), .val (.int (32768 : Int32))] [])) _
    refine XS.aloadN X24.here hx rfl (hb hby own_d_prog_35_method_1_code_118) rfl rfl ?_
    refine st26 _ ?_
    refine XS.iload X26.here hx rfl (hb hby own_d_prog_35_method_1_code_122) rfl ?_
    refine XS.iload X26.here hx rfl (hb hby own_d_prog_35_method_1_code_124) rfl ?_
    show Steps p.tables e below (T26.setTop (mkF m 126 #[.val (.ref a), .val (.long q), .second, .val (.int (3 : Int32)), .val (.int lw), .val (.int (0 : Int32)), .val (.int (32768 : Int32))] [(.int (32768 : Int32)), (.int (0 : Int32)), (.ref b12)])) _
    refine XS.sipush X26.here hx rfl (hb hby own_d_prog_35_method_1_code_126) ?_
    refine XS.isub X26.here hx rfl (hb hby own_d_prog_35_method_1_code_129) rfl ?_
    show Steps p.tables e below (T26.setTop (mkF m 130 #[.val (.ref a), .val (.long q), .second, .val (.int (3 : Int32)), .val (.int lw), .val (.int (0 : Int32)), .val (.int (32768 : Int32))] [(.int ((32768 : Int32) - (32764 : Int32))), (.int (0 : Int32)), (.ref b12)])) _
    rw [fold27]
    show Steps p.tables e below (T26.setTop (mkF m 130 #[.val (.ref a), .val (.long q), .second, .val (.int (3 : Int32)), .val (.int lw), .val (.int (0 : Int32)), .val (.int (32768 : Int32))] [(.int (4 : Int32)), (.int (0 : Int32)), (.ref b12)])) _
    refine XS.iconst X26.here hx rfl (hb hby own_d_prog_35_method_1_code_130) ?_
    show Steps p.tables e below (T26.setTop (mkF m 131 #[.val (.ref a), .val (.long q), .second, .val (.int (3 : Int32)), .val (.int lw), .val (.int (0 : Int32)), .val (.int (32768 : Int32))] [(.int (0 : Int32)), (.int (4 : Int32)), (.int (0 : Int32)), (.ref b12)])) _
    refine st28 _ ?_
    refine st29 _ ?_
    refine st31 _ ?_
    exact kk_)
  obtain ⟨T33, X33, e33, st33⟩ := getF X31 hx hZ hown (host := "") (Or.inl (hw _ (List.mem_of_getElem? (i := 22) rfl))) Via.refl e31 F31_3 (g := (mkF m 138 #[.val (.ref a), .val (.long q), .second, .val (.int (3 : Int32)), .val (.int lw), .val (.int (0 : Int32)), .val (.int (32768 : Int32))] [(.ref a)])) rfl rfl (hb hby own_d_prog_35_method_1_code_138)
  have fold34 : ((2 : Int32) * (0 : Int32)) = (0 : Int32) := by decide +kernel
  obtain ⟨T35, X35, e35, st35⟩ := getF X33 hx hZ hown (host := "") (Or.inl (hw _ (List.mem_of_getElem? (i := 18) rfl))) Via.refl e33 F31_1 (g := (mkF m 146 #[.val (.ref a), .val (.long q), .second, .val (.int (3 : Int32)), .val (.int lw), .val (.int (0 : Int32)), .val (.int (32768 : Int32))] [(.ref a), (.int (0 : Int32)), (.ref b16)])) rfl rfl (hb hby own_d_prog_35_method_1_code_146)
  obtain ⟨cl36, Ar36, q36, S36, M36, H36, G36⟩ := id V31_0
  have hin36 : ¬ ((0 : Int32) < 0 ∨ cl36.slots.size ≤ ((0 : Int32)).toNatClampNeg) := inb_of S36 ⟨by decide, by decide⟩
  have hat36 : cl36.slots[((0 : Int32)).toNatClampNeg]? = some (.ref b22) := Has.at H36 hin36 rfl
  obtain ⟨cl37, Ar37, q37, S37, M37, H37, G37⟩ := id V31_2
  have hin37 : ¬ ((0 : Int32) < 0 ∨ cl37.slots.size ≤ ((0 : Int32)).toNatClampNeg) := inb_of S37 ⟨by decide, by decide⟩
  obtain ⟨T38, h38, X38, e38, W38, st38⟩ := stR X35 hx hZ e35 Ar37 (j := (0 : Int32)) hin37 rfl (own_stoA Ar37 q37 O16 (Ins.self X31_1)) (g := (mkF m 152 #[.val (.ref a), .val (.long q), .second, .val (.int (3 : Int32)), .val (.int lw), .val (.int (0 : Int32)), .val (.int (32768 : Int32))] [(.ref b22), (.int (0 : Int32)), (.ref b16)])) rfl rfl (hb hby own_d_prog_35_method_1_code_152)
  have V_b16_38 : Arv Z h38 b16 k16 (.array .long) (5 : Int32) [(.ref b22), .null, .null, .null, .null] .null := Arv.set Ar37 q37 S37 M37 H37 G37 rfl W38 0 rfl (Nat.le_of_ble_eq_true rfl)
  have F38_0 := F31_0.other W38 (Or.inl ne_a_b16)
  have F38_1 := F31_1.other W38 (Or.inl ne_a_b16)
  have F38_2 := F31_2.other W38 (Or.inl ne_a_b16)
  have F38_3 := F31_3.other W38 (Or.inl ne_a_b16)
  have X38_0 := X31_0.wr W38
  have X38_1 := X31_1.wr W38
  have X38_2 := X31_2.wr W38
  have S38_0 := S31_0.wr W38
  have V38_0 := V31_0.other W38 ne_b10_b16
  have V38_1 := V_b12_31.other W38 ne_b12_b16
  have ne_b16_b22 : b16 ≠ b22 := Nat.ne_of_lt (Nat.lt_of_lt_of_le (V17_2).lt (Nat.le_of_eq g22.symm))
  have V38_3 := V31_3.other W38 (Ne.symm ne_b16_b22)
  have ne_b16_b29 : b16 ≠ b29 := Nat.ne_of_lt (Nat.lt_of_lt_of_le (V24_2).lt (Nat.le_of_eq g29.symm))
  have V38_4 := V31_4.other W38 (Ne.symm ne_b16_b29)
  have z38 : n0 ≤ h38.size := by rw [W38.size]; exact z31
  have K38 : Keep h0 h38 [a] := K31.wr W38 (Or.inr sz_b16)
  have N38 := Fr.snoc X38 N31 g_b16
  have pre39 : ∀ tt_, Steps p.tables e below (T38.setTop (mkF m 153 #[.val (.ref a), .val (.long q), .second, .val (.int (3 : Int32)), .val (.int lw), .val (.int (0 : Int32)), .val (.int (32768 : Int32))] [])) tt_ → Steps p.tables e below (s₁.setTop (entryFrame m #[(.ref a), (.long q)] 7)) tt_ := fun tt_ kk_ => pre32 tt_ (by
    show Steps p.tables e below (T31.setTop (mkF m 137 #[.val (.ref a), .val (.long q), .second, .val (.int (3 : Int32)), .val (.int lw), .val (.int (0 : Int32)), .val (.int (32768 : Int32))] [])) _
    refine XS.aloadN X31.here hx rfl (hb hby own_d_prog_35_method_1_code_137) rfl rfl ?_
    refine st33 _ ?_
    refine XS.iconst X33.here hx rfl (hb hby own_d_prog_35_method_1_code_141) ?_
    refine XS.iload X33.here hx rfl (hb hby own_d_prog_35_method_1_code_142) rfl ?_
    show Steps p.tables e below (T33.setTop (mkF m 144 #[.val (.ref a), .val (.long q), .second, .val (.int (3 : Int32)), .val (.int lw), .val (.int (0 : Int32)), .val (.int (32768 : Int32))] [(.int (0 : Int32)), (.int (2 : Int32)), (.ref b16)])) _
    refine XS.imul X33.here hx rfl (hb hby own_d_prog_35_method_1_code_144) rfl ?_
    show Steps p.tables e below (T33.setTop (mkF m 145 #[.val (.ref a), .val (.long q), .second, .val (.int (3 : Int32)), .val (.int lw), .val (.int (0 : Int32)), .val (.int (32768 : Int32))] [(.int ((2 : Int32) * (0 : Int32))), (.ref b16)])) _
    rw [fold34]
    show Steps p.tables e below (T33.setTop (mkF m 145 #[.val (.ref a), .val (.long q), .second, .val (.int (3 : Int32)), .val (.int lw), .val (.int (0 : Int32)), .val (.int (32768 : Int32))] [(.int (0 : Int32)), (.ref b16)])) _
    refine XS.aloadN X33.here hx rfl (hb hby own_d_prog_35_method_1_code_145) rfl rfl ?_
    refine st35 _ ?_
    refine XS.iload X35.here hx rfl (hb hby own_d_prog_35_method_1_code_149) rfl ?_
    refine X35.aaload hx (j := (0 : Int32)) (v := (.ref b22)) (by rw [e35]; exact Ar36.1) (State.isArrayOf_alike hZ.alike Ar36.2.1) rfl Ar36.2.2 hin36 hat36 (g := (mkF m 151 #[.val (.ref a), .val (.long q), .second, .val (.int (3 : Int32)), .val (.int lw), .val (.int (0 : Int32)), .val (.int (32768 : Int32))] [(.int (0 : Int32)), (.ref b10), (.int (0 : Int32)), (.ref b16)])) rfl rfl (hb hby own_d_prog_35_method_1_code_151) _ ?_
    refine st38 _ ?_
    exact kk_)
  obtain ⟨T40, X40, e40, st40⟩ := getF X38 hx hZ hown (host := "") (Or.inl (hw _ (List.mem_of_getElem? (i := 22) rfl))) Via.refl e38 F38_3 (g := (mkF m 162 #[.val (.ref a), .val (.long q), .second, .val (.int (3 : Int32)), .val (.int lw), .val (.int (0 : Int32)), .val (.int (32768 : Int32))] [(.ref a)])) rfl rfl (hb hby own_d_prog_35_method_1_code_162)
  have fold41 : ((2 : Int32) * (0 : Int32)) = (0 : Int32) := by decide +kernel
  have fold42 : ((0 : Int32) + (1 : Int32)) = (1 : Int32) := by decide +kernel
  obtain ⟨T43, X43, e43, st43⟩ := getF X40 hx hZ hown (host := "") (Or.inl (hw _ (List.mem_of_getElem? (i := 20) rfl))) Via.refl e40 F38_2 (g := (mkF m 172 #[.val (.ref a), .val (.long q), .second, .val (.int (3 : Int32)), .val (.int lw), .val (.int (0 : Int32)), .val (.int (32768 : Int32))] [(.ref a), (.int (1 : Int32)), (.ref b16)])) rfl rfl (hb hby own_d_prog_35_method_1_code_172)
  obtain ⟨cl44, Ar44, q44, S44, M44, H44, G44⟩ := id V38_1
  have hin44 : ¬ ((0 : Int32) < 0 ∨ cl44.slots.size ≤ ((0 : Int32)).toNatClampNeg) := inb_of S44 ⟨by decide, by decide⟩
  have hat44 : cl44.slots[((0 : Int32)).toNatClampNeg]? = some (.ref b29) := Has.at H44 hin44 rfl
  obtain ⟨cl45, Ar45, q45, S45, M45, H45, G45⟩ := id V_b16_38
  have hin45 : ¬ ((1 : Int32) < 0 ∨ cl45.slots.size ≤ ((1 : Int32)).toNatClampNeg) := inb_of S45 ⟨by decide, by decide⟩
  obtain ⟨T46, h46, X46, e46, W46, st46⟩ := stR X43 hx hZ e43 Ar45 (j := (1 : Int32)) hin45 rfl (own_stoA Ar45 q45 O16 (Ins.self X38_2)) (g := (mkF m 178 #[.val (.ref a), .val (.long q), .second, .val (.int (3 : Int32)), .val (.int lw), .val (.int (0 : Int32)), .val (.int (32768 : Int32))] [(.ref b29), (.int (1 : Int32)), (.ref b16)])) rfl rfl (hb hby own_d_prog_35_method_1_code_178)
  have V_b16_46 : Arv Z h46 b16 k16 (.array .long) (5 : Int32) [(.ref b22), (.ref b29), .null, .null, .null] .null := Arv.set Ar45 q45 S45 M45 H45 G45 rfl W46 1 rfl (Nat.le_of_ble_eq_true rfl)
  have F46_0 := F38_0.other W46 (Or.inl ne_a_b16)
  have F46_1 := F38_1.other W46 (Or.inl ne_a_b16)
  have F46_2 := F38_2.other W46 (Or.inl ne_a_b16)
  have F46_3 := F38_3.other W46 (Or.inl ne_a_b16)
  have X46_0 := X38_0.wr W46
  have X46_1 := X38_1.wr W46
  have X46_2 := X38_2.wr W46
  have S46_0 := S38_0.wr W46
  have V46_0 := V38_0.other W46 ne_b10_b16
  have V46_1 := V38_1.other W46 ne_b12_b16
  have V46_3 := V38_3.other W46 (Ne.symm ne_b16_b22)
  have V46_4 := V38_4.other W46 (Ne.symm ne_b16_b29)
  have z46 : n0 ≤ h46.size := by rw [W46.size]; exact z38
  have K46 : Keep h0 h46 [a] := K38.wr W46 (Or.inr sz_b16)
  have N46 := Fr.snoc X46 N38 g_b16
  have fold47 : ((0 : Int32) + (1 : Int32)) = (1 : Int32) := by decide +kernel
  have pre48 : ∀ tt_, Steps p.tables e below (T46.setTop (mkF m 78 #[.val (.ref a), .val (.long q), .second, .val (.int (3 : Int32)), .val (.int lw), .val (.int (1 : Int32)), .val (.int (32768 : Int32))] [])) tt_ → Steps p.tables e below (s₁.setTop (entryFrame m #[(.ref a), (.long q)] 7)) tt_ := fun tt_ kk_ => pre39 tt_ (by
    show Steps p.tables e below (T38.setTop (mkF m 153 #[.val (.ref a), .val (.long q), .second, .val (.int (3 : Int32)), .val (.int lw), .val (.int (0 : Int32)), .val (.int (32768 : Int32))] [])) _
    refine XS.iload X38.here hx rfl (hb hby own_d_prog_35_method_1_code_153) rfl ?_
    refine XS.sipush X38.here hx rfl (hb hby own_d_prog_35_method_1_code_155) ?_
    show Steps p.tables e below (T38.setTop (mkF m 158 #[.val (.ref a), .val (.long q), .second, .val (.int (3 : Int32)), .val (.int lw), .val (.int (0 : Int32)), .val (.int (32768 : Int32))] [(.int (32764 : Int32)), (.int (32768 : Int32))])) _
    refine XS.icmpNo X38.here hx rfl (hb hby own_d_prog_35_method_1_code_158) rfl (tlt ((by decide) : (32764 : Int32) < (32768 : Int32))).2.2.2 ?_
    refine XS.aloadN X38.here hx rfl (hb hby own_d_prog_35_method_1_code_161) rfl rfl ?_
    refine st40 _ ?_
    refine XS.iconst X40.here hx rfl (hb hby own_d_prog_35_method_1_code_165) ?_
    refine XS.iload X40.here hx rfl (hb hby own_d_prog_35_method_1_code_166) rfl ?_
    refine XS.imul X40.here hx rfl (hb hby own_d_prog_35_method_1_code_168) rfl ?_
    show Steps p.tables e below (T40.setTop (mkF m 169 #[.val (.ref a), .val (.long q), .second, .val (.int (3 : Int32)), .val (.int lw), .val (.int (0 : Int32)), .val (.int (32768 : Int32))] [(.int ((2 : Int32) * (0 : Int32))), (.ref b16)])) _
    rw [fold41]
    show Steps p.tables e below (T40.setTop (mkF m 169 #[.val (.ref a), .val (.long q), .second, .val (.int (3 : Int32)), .val (.int lw), .val (.int (0 : Int32)), .val (.int (32768 : Int32))] [(.int (0 : Int32)), (.ref b16)])) _
    refine XS.iconst X40.here hx rfl (hb hby own_d_prog_35_method_1_code_169) ?_
    show Steps p.tables e below (T40.setTop (mkF m 170 #[.val (.ref a), .val (.long q), .second, .val (.int (3 : Int32)), .val (.int lw), .val (.int (0 : Int32)), .val (.int (32768 : Int32))] [(.int (1 : Int32)), (.int (0 : Int32)), (.ref b16)])) _
    refine XS.iadd X40.here hx rfl (hb hby own_d_prog_35_method_1_code_170) rfl ?_
    show Steps p.tables e below (T40.setTop (mkF m 171 #[.val (.ref a), .val (.long q), .second, .val (.int (3 : Int32)), .val (.int lw), .val (.int (0 : Int32)), .val (.int (32768 : Int32))] [(.int ((0 : Int32) + (1 : Int32))), (.ref b16)])) _
    rw [fold42]
    show Steps p.tables e below (T40.setTop (mkF m 171 #[.val (.ref a), .val (.long q), .second, .val (.int (3 : Int32)), .val (.int lw), .val (.int (0 : Int32)), .val (.int (32768 : Int32))] [(.int (1 : Int32)), (.ref b16)])) _
    refine XS.aloadN X40.here hx rfl (hb hby own_d_prog_35_method_1_code_171) rfl rfl ?_
    refine st43 _ ?_
    refine XS.iload X43.here hx rfl (hb hby own_d_prog_35_method_1_code_175) rfl ?_
    refine X43.aaload hx (j := (0 : Int32)) (v := (.ref b29)) (by rw [e43]; exact Ar44.1) (State.isArrayOf_alike hZ.alike Ar44.2.1) rfl Ar44.2.2 hin44 hat44 (g := (mkF m 177 #[.val (.ref a), .val (.long q), .second, .val (.int (3 : Int32)), .val (.int lw), .val (.int (0 : Int32)), .val (.int (32768 : Int32))] [(.int (0 : Int32)), (.ref b12), (.int (1 : Int32)), (.ref b16)])) rfl rfl (hb hby own_d_prog_35_method_1_code_177) _ ?_
    refine st46 _ ?_
    refine XS.iinc X46.here hx rfl (hb hby own_d_prog_35_method_1_code_179) rfl (l' := #[.val (.ref a), .val (.long q), .second, .val (.int (3 : Int32)), .val (.int lw), .val (.int ((0 : Int32) + (1 : Int32))), .val (.int (32768 : Int32))]) rfl ?_
    show Steps p.tables e below (T46.setTop (mkF m 182 #[.val (.ref a), .val (.long q), .second, .val (.int (3 : Int32)), .val (.int lw), .val (.int ((0 : Int32) + (1 : Int32))), .val (.int (32768 : Int32))] [])) _
    rw [fold47]
    show Steps p.tables e below (T46.setTop (mkF m 182 #[.val (.ref a), .val (.long q), .second, .val (.int (3 : Int32)), .val (.int lw), .val (.int (1 : Int32)), .val (.int (32768 : Int32))] [])) _
    refine XS.goto X46.here hx rfl (pc0 := 182) (pc' := 78) rfl (hb hby own_d_prog_35_method_1_code_182) (by decide) (by decide) ?_
    exact kk_)
  have fold49 : ((3 : Int32) - (1 : Int32)) = (2 : Int32) := by decide +kernel
  obtain ⟨T50, X50, e50, st50⟩ := getF X46 hx hZ hown (host := "") (Or.inl (hw _ (List.mem_of_getElem? (i := 18) rfl))) Via.refl e46 F46_1 (g := (mkF m 102 #[.val (.ref a), .val (.long q), .second, .val (.int (3 : Int32)), .val (.int lw), .val (.int (1 : Int32)), .val (.int (32768 : Int32))] [(.ref a)])) rfl rfl (hb hby own_d_prog_35_method_1_code_102)
  obtain ⟨_, _, ⟨T51, L51, k51, n51⟩, -, X51, ⟨Lc51, hQ51, l51, y51, z51⟩, st51⟩ := Jvm.LawKit.callS X50 hx (y := (⟨"java/lang/Math", "min", "(II)I"⟩ : MethodName)) hown (mvT hZ (hw _ (List.mem_of_getElem? (i := 24) rfl))) (mvT hZ (hw _ (List.mem_of_getElem? (i := 25) rfl))) (mvT hZ (hw _ (List.mem_of_getElem? (i := 26) rfl))) (mvT hZ (hw _ (List.mem_of_getElem? (i := 27) rfl))) (by decide) (backOf (W := 2) (rmMin l Z a0 hw [] (32768 : Int32) (32764 : Int32) (32764 : Int32) h46 n0 z46 (by decide)) hZ (hw _ (List.mem_of_getElem? (i := 27) rfl)) (hw _ (List.mem_of_getElem? (i := 26) rfl)) (by decide) (by decide)) (g := (mkF m 112 #[.val (.ref a), .val (.long q), .second, .val (.int (3 : Int32)), .val (.int lw), .val (.int (1 : Int32)), .val (.int (32768 : Int32))] [(.int (32764 : Int32)), (.int (32768 : Int32)), (.int (1 : Int32)), (.ref b10)])) rfl (by rw [hml]; rfl) (argsL := [(.int (32768 : Int32)), (.int (32764 : Int32))]) (rest := [(.int (1 : Int32)), (.ref b10)]) (lenOf own_pd0 rfl) rfl (by show 2 * 0 + _ ≤ _; exact Nat.le_of_eq rfl) (hb hby own_d_prog_35_method_1_code_112) (fun _ _ => ⟨rfl, e50, (by decide : 5 + 0 ≤ _), (by decide : 32779 + 0 ≤ _)⟩)
  dsimp only [Pt.U, Pt.locs, Pt.cells, Pt.slots] at X51 l51 y51 z51 st51 hQ51
  replace l51 := l51.symm; subst l51 y51 z51
  obtain ⟨rfl, N51q, e51⟩ := hQ51
  have N51 := Fr.app N46 N51q
  obtain ⟨T52, h52, k52, X52, e52, E52, A52, Ea52, st52⟩ := newPE X51 hx hZ (hw _ (List.mem_of_getElem? (i := 28) rfl)) e51 (g := (mkF m 115 #[.val (.ref a), .val (.long q), .second, .val (.int (3 : Int32)), .val (.int lw), .val (.int (1 : Int32)), .val (.int (32768 : Int32))] [(.int (32764 : Int32)), (.int (1 : Int32)), (.ref b10)])) rfl (hb hby own_d_prog_35_method_1_code_115) rfl (by decide) (cap := 32764) (by decide) (by decide) (by decide) (by decide) (ad := "[J") (by decide +kernel)
  obtain ⟨b52, g52⟩ : ∃ z, z = h46.size := ⟨_, rfl⟩
  rw [← g52] at A52 st52 Ea52
  have g_b52 : n0 ≤ b52 := Nat.le_trans z46 (Nat.le_of_eq g52.symm)
  have sz_b52 : h0.size ≤ b52 := Nat.le_trans K46.1 (Nat.le_of_eq g52.symm)
  have F52_0 := F46_1.ext E52
  have F52_1 := F46_2.ext E52
  have F52_2 := F46_3.ext E52
  have X52_0 := X46_0.ext E52
  have S52_0 := S46_0.ext E52
  have V52_0 := V46_0.ext E52
  have V52_1 := V46_1.ext E52
  have V52_2 := V_b16_46.ext E52
  have V52_3 := V46_3.ext E52
  have V52_4 := V46_4.ext E52
  have z52 : n0 ≤ h52.size := Nat.le_trans z46 E52.1
  have K52 : Keep h0 h52 [a] := K46.ext E52
  have V_b52 : Arv Z h52 b52 k52 .long (32764 : Int32) [] (.long (0 : Int64)) := (Arv.new A52 (by decide)).pad (pad_rep [] (.long (0 : Int64)) 0)
  obtain ⟨cl53, Ar53, q53, S53, M53, H53, G53⟩ := id V52_0
  have hin53 : ¬ ((1 : Int32) < 0 ∨ cl53.slots.size ≤ ((1 : Int32)).toNatClampNeg) := inb_of S53 ⟨by decide, by decide⟩
  obtain ⟨T54, h54, X54, e54, W54, st54⟩ := stR X52 hx hZ e52 Ar53 (j := (1 : Int32)) hin53 rfl (own_stoA Ar53 q53 O10 (Ins.self Ea52)) (g := (mkF m 117 #[.val (.ref a), .val (.long q), .second, .val (.int (3 : Int32)), .val (.int lw), .val (.int (1 : Int32)), .val (.int (32768 : Int32))] [(.ref b52), (.int (1 : Int32)), (.ref b10)])) rfl rfl (hb hby own_d_prog_35_method_1_code_117)
  have V_b10_54 : Arv Z h54 b10 k10 (.array .long) (3 : Int32) [(.ref b22), (.ref b52), .null] .null := Arv.set Ar53 q53 S53 M53 H53 G53 rfl W54 1 rfl (Nat.le_of_ble_eq_true rfl)
  have F54_0 := F52_0.other W54 (Or.inl ne_a_b10)
  have F54_1 := F52_1.other W54 (Or.inl ne_a_b10)
  have F54_2 := F52_2.other W54 (Or.inl ne_a_b10)
  have X54_0 := X52_0.wr W54
  have X54_1 := Ea52.wr W54
  have S54_0 := S52_0.wr W54
  have V54_1 := V52_1.other W54 (Ne.symm ne_b10_b12)
  have V54_2 := V52_2.other W54 (Ne.symm ne_b10_b16)
  have V54_3 := V52_3.other W54 (Ne.symm ne_b10_b22)
  have ne_b10_b29 : b10 ≠ b29 := Nat.ne_of_lt (Nat.lt_of_lt_of_le (V_b10_24).lt (Nat.le_of_eq g29.symm))
  have V54_4 := V52_4.other W54 (Ne.symm ne_b10_b29)
  have ne_b10_b52 : b10 ≠ b52 := Nat.ne_of_lt (Nat.lt_of_lt_of_le (V46_0).lt (Nat.le_of_eq g52.symm))
  have V54_5 := V_b52.other W54 (Ne.symm ne_b10_b52)
  have z54 : n0 ≤ h54.size := by rw [W54.size]; exact z52
  have K54 : Keep h0 h54 [a] := K52.wr W54 (Or.inr sz_b10)
  have N54 := Fr.snoc X54 N51 g_b10
  have pre55 : ∀ tt_, Steps p.tables e below (T54.setTop (mkF m 118 #[.val (.ref a), .val (.long q), .second, .val (.int (3 : Int32)), .val (.int lw), .val (.int (1 : Int32)), .val (.int (32768 : Int32))] [])) tt_ → Steps p.tables e below (s₁.setTop (entryFrame m #[(.ref a), (.long q)] 7)) tt_ := fun tt_ kk_ => pre48 tt_ (by
    show Steps p.tables e below (T46.setTop (mkF m 78 #[.val (.ref a), .val (.long q), .second, .val (.int (3 : Int32)), .val (.int lw), .val (.int (1 : Int32)), .val (.int (32768 : Int32))] [])) _
    refine XS.iload X46.here hx rfl (hb hby own_d_prog_35_method_1_code_78) rfl ?_
    refine XS.iloadN X46.here hx rfl (hb hby own_d_prog_35_method_1_code_80) rfl ?_
    refine XS.icmpNo X46.here hx rfl (hb hby own_d_prog_35_method_1_code_81) rfl (tlt ((by decide) : (1 : Int32) < (3 : Int32))).2.1 ?_
    refine XS.iload X46.here hx rfl (hb hby own_d_prog_35_method_1_code_84) rfl ?_
    refine XS.iloadN X46.here hx rfl (hb hby own_d_prog_35_method_1_code_86) rfl ?_
    refine XS.iconst X46.here hx rfl (hb hby own_d_prog_35_method_1_code_87) ?_
    show Steps p.tables e below (T46.setTop (mkF m 88 #[.val (.ref a), .val (.long q), .second, .val (.int (3 : Int32)), .val (.int lw), .val (.int (1 : Int32)), .val (.int (32768 : Int32))] [(.int (1 : Int32)), (.int (3 : Int32)), (.int (1 : Int32))])) _
    refine XS.isub X46.here hx rfl (hb hby own_d_prog_35_method_1_code_88) rfl ?_
    show Steps p.tables e below (T46.setTop (mkF m 89 #[.val (.ref a), .val (.long q), .second, .val (.int (3 : Int32)), .val (.int lw), .val (.int (1 : Int32)), .val (.int (32768 : Int32))] [(.int ((3 : Int32) - (1 : Int32))), (.int (1 : Int32))])) _
    rw [fold49]
    show Steps p.tables e below (T46.setTop (mkF m 89 #[.val (.ref a), .val (.long q), .second, .val (.int (3 : Int32)), .val (.int lw), .val (.int (1 : Int32)), .val (.int (32768 : Int32))] [(.int (2 : Int32)), (.int (1 : Int32))])) _
    refine XS.icmpNo X46.here hx rfl (hb hby own_d_prog_35_method_1_code_89) rfl (tlt ((by decide) : (1 : Int32) < (2 : Int32))).2.1 ?_
    refine X46.ldcInt hx hown (mvT hZ (hw _ (List.mem_of_getElem? (i := 52) rfl))) (g := (mkF m 92 #[.val (.ref a), .val (.long q), .second, .val (.int (3 : Int32)), .val (.int lw), .val (.int (1 : Int32)), .val (.int (32768 : Int32))] [])) rfl (hb hby own_d_prog_35_method_1_code_92) _ ?_
    refine XS.goto X46.here hx rfl (pc0 := 94) (pc' := 99) rfl (hb hby own_d_prog_35_method_1_code_94) (by decide) (by decide) ?_
    refine XS.istore X46.here hx rfl (hb hby own_d_prog_35_method_1_code_99) rfl (l' := #[.val (.ref a), .val (.long q), .second, .val (.int (3 : Int32)), .val (.int lw), .val (.int (1 : Int32)), .val (.int (32768 : Int32))]) rfl ?_
    refine XS.aloadN X46.here hx rfl (hb hby own_d_prog_35_method_1_code_101) rfl rfl ?_
    refine st50 _ ?_
    show Steps p.tables e below (T50.setTop (mkF m 105 #[.val (.ref a), .val (.long q), .second, .val (.int (3 : Int32)), .val (.int lw), .val (.int (1 : Int32)), .val (.int (32768 : Int32))] [(.ref b10)])) _
    refine XS.iload X50.here hx rfl (hb hby own_d_prog_35_method_1_code_105) rfl ?_
    refine XS.iload X50.here hx rfl (hb hby own_d_prog_35_method_1_code_107) rfl ?_
    refine XS.sipush X50.here hx rfl (hb hby own_d_prog_35_method_1_code_109) ?_
    show Steps p.tables e below (T50.setTop (mkF m 112 #[.val (.ref a), .val (.long q), .second, .val (.int (3 : Int32)), .val (.int lw), .val (.int (1 : Int32)), .val (.int (32768 : Int32))] [(.int (32764 : Int32)), (.int (32768 : Int32)), (.int (1 : Int32)), (.ref b10)])) _
    refine st51 _ ?_
    refine st52 _ ?_
    refine st54 _ ?_
    exact kk_)
  obtain ⟨T56, X56, e56, st56⟩ := getF X54 hx hZ hown (host := "") (Or.inl (hw _ (List.mem_of_getElem? (i := 20) rfl))) Via.refl e54 F54_1 (g := (mkF m 119 #[.val (.ref a), .val (.long q), .second, .val (.int (3 : Int32)), .val (.int lw), .val (.int (1 : Int32)), .val (.int (32768 : Int32))] [(.ref a)])) rfl rfl (hb hby own_d_prog_35_method_1_code_119)
  have fold57 : ((32768 : Int32) - (32764 : Int32)) = (4 : Int32) := by decide +kernel
  obtain ⟨_, _, ⟨T58, L58, k58, n58⟩, -, X58, ⟨Lc58, hQ58, l58, y58, z58⟩, st58⟩ := Jvm.LawKit.callS X56 hx (y := (⟨"java/lang/Math", "max", "(II)I"⟩ : MethodName)) hown (mvT hZ (hw _ (List.mem_of_getElem? (i := 30) rfl))) (mvT hZ (hw _ (List.mem_of_getElem? (i := 31) rfl))) (mvT hZ (hw _ (List.mem_of_getElem? (i := 26) rfl))) (mvT hZ (hw _ (List.mem_of_getElem? (i := 32) rfl))) (by decide) (backOf (W := 2) (rmMax l Z a0 hw [] (4 : Int32) (0 : Int32) (4 : Int32) h54 n0 z54 (by decide)) hZ (hw _ (List.mem_of_getElem? (i := 32) rfl)) (hw _ (List.mem_of_getElem? (i := 26) rfl)) (by decide) (by decide)) (g := (mkF m 131 #[.val (.ref a), .val (.long q), .second, .val (.int (3 : Int32)), .val (.int lw), .val (.int (1 : Int32)), .val (.int (32768 : Int32))] [(.int (0 : Int32)), (.int (4 : Int32)), (.int (1 : Int32)), (.ref b12)])) rfl (by rw [hml]; rfl) (argsL := [(.int (4 : Int32)), (.int (0 : Int32))]) (rest := [(.int (1 : Int32)), (.ref b12)]) (lenOf own_pd0 rfl) rfl (by show 2 * 0 + _ ≤ _; exact Nat.le_of_eq rfl) (hb hby own_d_prog_35_method_1_code_131) (fun _ _ => ⟨rfl, e56, (by decide : 6 + 0 ≤ _), (by decide : 65543 + 0 ≤ _)⟩)
  dsimp only [Pt.U, Pt.locs, Pt.cells, Pt.slots] at X58 l58 y58 z58 st58 hQ58
  replace l58 := l58.symm; subst l58 y58 z58
  obtain ⟨rfl, N58q, e58⟩ := hQ58
  have N58 := Fr.app N54 N58q
  obtain ⟨T59, h59, k59, X59, e59, E59, A59, Ea59, st59⟩ := newPE X58 hx hZ (hw _ (List.mem_of_getElem? (i := 28) rfl)) e58 (g := (mkF m 134 #[.val (.ref a), .val (.long q), .second, .val (.int (3 : Int32)), .val (.int lw), .val (.int (1 : Int32)), .val (.int (32768 : Int32))] [(.int (4 : Int32)), (.int (1 : Int32)), (.ref b12)])) rfl (hb hby own_d_prog_35_method_1_code_134) rfl (by decide) (cap := 4) (by decide) (by decide) (by decide) (by decide) (ad := "[J") (by decide +kernel)
  obtain ⟨b59, g59⟩ : ∃ z, z = h54.size := ⟨_, rfl⟩
  rw [← g59] at A59 st59 Ea59
  have g_b59 : n0 ≤ b59 := Nat.le_trans z54 (Nat.le_of_eq g59.symm)
  have sz_b59 : h0.size ≤ b59 := Nat.le_trans K54.1 (Nat.le_of_eq g59.symm)
  have F59_0 := F54_0.ext E59
  have F59_1 := F54_1.ext E59
  have F59_2 := F54_2.ext E59
  have X59_0 := X54_0.ext E59
  have X59_1 := X54_1.ext E59
  have S59_0 := S54_0.ext E59
  have V59_0 := V_b10_54.ext E59
  have V59_1 := V54_1.ext E59
  have V59_2 := V54_2.ext E59
  have V59_3 := V54_3.ext E59
  have V59_4 := V54_4.ext E59
  have V59_5 := V54_5.ext E59
  have z59 : n0 ≤ h59.size := Nat.le_trans z54 E59.1
  have K59 : Keep h0 h59 [a] := K54.ext E59
  have V_b59 : Arv Z h59 b59 k59 .long (4 : Int32) [] (.long (0 : Int64)) := (Arv.new A59 (by decide)).pad (pad_rep [] (.long (0 : Int64)) 0)
  obtain ⟨cl60, Ar60, q60, S60, M60, H60, G60⟩ := id V59_1
  have hin60 : ¬ ((1 : Int32) < 0 ∨ cl60.slots.size ≤ ((1 : Int32)).toNatClampNeg) := inb_of S60 ⟨by decide, by decide⟩
  obtain ⟨T61, h61, X61, e61, W61, st61⟩ := stR X59 hx hZ e59 Ar60 (j := (1 : Int32)) hin60 rfl (own_stoA Ar60 q60 O12 (Ins.self Ea59)) (g := (mkF m 136 #[.val (.ref a), .val (.long q), .second, .val (.int (3 : Int32)), .val (.int lw), .val (.int (1 : Int32)), .val (.int (32768 : Int32))] [(.ref b59), (.int (1 : Int32)), (.ref b12)])) rfl rfl (hb hby own_d_prog_35_method_1_code_136)
  have V_b12_61 : Arv Z h61 b12 k12 (.array .long) (3 : Int32) [(.ref b29), (.ref b59), .null] .null := Arv.set Ar60 q60 S60 M60 H60 G60 rfl W61 1 rfl (Nat.le_of_ble_eq_true rfl)
  have F61_0 := F59_0.other W61 (Or.inl ne_a_b12)
  have F61_1 := F59_1.other W61 (Or.inl ne_a_b12)
  have F61_2 := F59_2.other W61 (Or.inl ne_a_b12)
  have X61_0 := X59_0.wr W61
  have X61_1 := X59_1.wr W61
  have X61_2 := Ea59.wr W61
  have S61_0 := S59_0.wr W61
  have V61_0 := V59_0.other W61 ne_b10_b12
  have V61_2 := V59_2.other W61 (Ne.symm ne_b12_b16)
  have V61_3 := V59_3.other W61 (Ne.symm ne_b12_b22)
  have V61_4 := V59_4.other W61 (Ne.symm ne_b12_b29)
  have ne_b12_b52 : b12 ≠ b52 := Nat.ne_of_lt (Nat.lt_of_lt_of_le (V46_1).lt (Nat.le_of_eq g52.symm))
  have V61_5 := V59_5.other W61 (Ne.symm ne_b12_b52)
  have ne_b12_b59 : b12 ≠ b59 := Nat.ne_of_lt (Nat.lt_of_lt_of_le (V54_1).lt (Nat.le_of_eq g59.symm))
  have V61_6 := V_b59.other W61 (Ne.symm ne_b12_b59)
  have z61 : n0 ≤ h61.size := by rw [W61.size]; exact z59
  have K61 : Keep h0 h61 [a] := K59.wr W61 (Or.inr sz_b12)
  have N61 := Fr.snoc X61 N58 g_b12
  have pre62 : ∀ tt_, Steps p.tables e below (T61.setTop (mkF m 137 #[.val (.ref a), .val (.long q), .second, .val (.int (3 : Int32)), .val (.int lw), .val (.int (1 : Int32)), .val (.int (32768 : Int32))] [])) tt_ → Steps p.tables e below (s₁.setTop (entryFrame m #[(.ref a), (.long q)] 7)) tt_ := fun tt_ kk_ => pre55 tt_ (by
    show Steps p.tables e below (T54.setTop (mkF m 118 #[.val (.ref a), .val (.long q), .second, .val (.int (3 : Int32)), .val (.int lw), .val (.int (1 : Int32)), .val (.int (32768 : Int32))] [])) _
    refine XS.aloadN X54.here hx rfl (hb hby own_d_prog_35_method_1_code_118) rfl rfl ?_
    refine st56 _ ?_
    refine XS.iload X56.here hx rfl (hb hby own_d_prog_35_method_1_code_122) rfl ?_
    refine XS.iload X56.here hx rfl (hb hby own_d_prog_35_method_1_code_124) rfl ?_
    show Steps p.tables e below (T56.setTop (mkF m 126 #[.val (.ref a), .val (.long q), .second, .val (.int (3 : Int32)), .val (.int lw), .val (.int (1 : Int32)), .val (.int (32768 : Int32))] [(.int (32768 : Int32)), (.int (1 : Int32)), (.ref b12)])) _
    refine XS.sipush X56.here hx rfl (hb hby own_d_prog_35_method_1_code_126) ?_
    refine XS.isub X56.here hx rfl (hb hby own_d_prog_35_method_1_code_129) rfl ?_
    show Steps p.tables e below (T56.setTop (mkF m 130 #[.val (.ref a), .val (.long q), .second, .val (.int (3 : Int32)), .val (.int lw), .val (.int (1 : Int32)), .val (.int (32768 : Int32))] [(.int ((32768 : Int32) - (32764 : Int32))), (.int (1 : Int32)), (.ref b12)])) _
    rw [fold57]
    show Steps p.tables e below (T56.setTop (mkF m 130 #[.val (.ref a), .val (.long q), .second, .val (.int (3 : Int32)), .val (.int lw), .val (.int (1 : Int32)), .val (.int (32768 : Int32))] [(.int (4 : Int32)), (.int (1 : Int32)), (.ref b12)])) _
    refine XS.iconst X56.here hx rfl (hb hby own_d_prog_35_method_1_code_130) ?_
    show Steps p.tables e below (T56.setTop (mkF m 131 #[.val (.ref a), .val (.long q), .second, .val (.int (3 : Int32)), .val (.int lw), .val (.int (1 : Int32)), .val (.int (32768 : Int32))] [(.int (0 : Int32)), (.int (4 : Int32)), (.int (1 : Int32)), (.ref b12)])) _
    refine st58 _ ?_
    refine st59 _ ?_
    refine st61 _ ?_
    exact kk_)
  obtain ⟨T63, X63, e63, st63⟩ := getF X61 hx hZ hown (host := "") (Or.inl (hw _ (List.mem_of_getElem? (i := 22) rfl))) Via.refl e61 F61_2 (g := (mkF m 138 #[.val (.ref a), .val (.long q), .second, .val (.int (3 : Int32)), .val (.int lw), .val (.int (1 : Int32)), .val (.int (32768 : Int32))] [(.ref a)])) rfl rfl (hb hby own_d_prog_35_method_1_code_138)
  have fold64 : ((2 : Int32) * (1 : Int32)) = (2 : Int32) := by decide +kernel
  obtain ⟨T65, X65, e65, st65⟩ := getF X63 hx hZ hown (host := "") (Or.inl (hw _ (List.mem_of_getElem? (i := 18) rfl))) Via.refl e63 F61_0 (g := (mkF m 146 #[.val (.ref a), .val (.long q), .second, .val (.int (3 : Int32)), .val (.int lw), .val (.int (1 : Int32)), .val (.int (32768 : Int32))] [(.ref a), (.int (2 : Int32)), (.ref b16)])) rfl rfl (hb hby own_d_prog_35_method_1_code_146)
  obtain ⟨cl66, Ar66, q66, S66, M66, H66, G66⟩ := id V61_0
  have hin66 : ¬ ((1 : Int32) < 0 ∨ cl66.slots.size ≤ ((1 : Int32)).toNatClampNeg) := inb_of S66 ⟨by decide, by decide⟩
  have hat66 : cl66.slots[((1 : Int32)).toNatClampNeg]? = some (.ref b52) := Has.at H66 hin66 rfl
  obtain ⟨cl67, Ar67, q67, S67, M67, H67, G67⟩ := id V61_2
  have hin67 : ¬ ((2 : Int32) < 0 ∨ cl67.slots.size ≤ ((2 : Int32)).toNatClampNeg) := inb_of S67 ⟨by decide, by decide⟩
  obtain ⟨T68, h68, X68, e68, W68, st68⟩ := stR X65 hx hZ e65 Ar67 (j := (2 : Int32)) hin67 rfl (own_stoA Ar67 q67 O16 (Ins.self X61_1)) (g := (mkF m 152 #[.val (.ref a), .val (.long q), .second, .val (.int (3 : Int32)), .val (.int lw), .val (.int (1 : Int32)), .val (.int (32768 : Int32))] [(.ref b52), (.int (2 : Int32)), (.ref b16)])) rfl rfl (hb hby own_d_prog_35_method_1_code_152)
  have V_b16_68 : Arv Z h68 b16 k16 (.array .long) (5 : Int32) [(.ref b22), (.ref b29), (.ref b52), .null, .null] .null := Arv.set Ar67 q67 S67 M67 H67 G67 rfl W68 2 rfl (Nat.le_of_ble_eq_true rfl)
  have F68_0 := F61_0.other W68 (Or.inl ne_a_b16)
  have F68_1 := F61_1.other W68 (Or.inl ne_a_b16)
  have F68_2 := F61_2.other W68 (Or.inl ne_a_b16)
  have X68_0 := X61_0.wr W68
  have X68_1 := X61_1.wr W68
  have X68_2 := X61_2.wr W68
  have S68_0 := S61_0.wr W68
  have V68_0 := V61_0.other W68 ne_b10_b16
  have V68_1 := V_b12_61.other W68 ne_b12_b16
  have V68_3 := V61_3.other W68 (Ne.symm ne_b16_b22)
  have V68_4 := V61_4.other W68 (Ne.symm ne_b16_b29)
  have ne_b16_b52 : b16 ≠ b52 := Nat.ne_of_lt (Nat.lt_of_lt_of_le (V_b16_46).lt (Nat.le_of_eq g52.symm))
  have V68_5 := V61_5.other W68 (Ne.symm ne_b16_b52)
  have ne_b16_b59 : b16 ≠ b59 := Nat.ne_of_lt (Nat.lt_of_lt_of_le (V54_2).lt (Nat.le_of_eq g59.symm))
  have V68_6 := V61_6.other W68 (Ne.symm ne_b16_b59)
  have z68 : n0 ≤ h68.size := by rw [W68.size]; exact z61
  have K68 : Keep h0 h68 [a] := K61.wr W68 (Or.inr sz_b16)
  have N68 := Fr.snoc X68 N61 g_b16
  have pre69 : ∀ tt_, Steps p.tables e below (T68.setTop (mkF m 153 #[.val (.ref a), .val (.long q), .second, .val (.int (3 : Int32)), .val (.int lw), .val (.int (1 : Int32)), .val (.int (32768 : Int32))] [])) tt_ → Steps p.tables e below (s₁.setTop (entryFrame m #[(.ref a), (.long q)] 7)) tt_ := fun tt_ kk_ => pre62 tt_ (by
    show Steps p.tables e below (T61.setTop (mkF m 137 #[.val (.ref a), .val (.long q), .second, .val (.int (3 : Int32)), .val (.int lw), .val (.int (1 : Int32)), .val (.int (32768 : Int32))] [])) _
    refine XS.aloadN X61.here hx rfl (hb hby own_d_prog_35_method_1_code_137) rfl rfl ?_
    refine st63 _ ?_
    refine XS.iconst X63.here hx rfl (hb hby own_d_prog_35_method_1_code_141) ?_
    refine XS.iload X63.here hx rfl (hb hby own_d_prog_35_method_1_code_142) rfl ?_
    show Steps p.tables e below (T63.setTop (mkF m 144 #[.val (.ref a), .val (.long q), .second, .val (.int (3 : Int32)), .val (.int lw), .val (.int (1 : Int32)), .val (.int (32768 : Int32))] [(.int (1 : Int32)), (.int (2 : Int32)), (.ref b16)])) _
    refine XS.imul X63.here hx rfl (hb hby own_d_prog_35_method_1_code_144) rfl ?_
    show Steps p.tables e below (T63.setTop (mkF m 145 #[.val (.ref a), .val (.long q), .second, .val (.int (3 : Int32)), .val (.int lw), .val (.int (1 : Int32)), .val (.int (32768 : Int32))] [(.int ((2 : Int32) * (1 : Int32))), (.ref b16)])) _
    rw [fold64]
    show Steps p.tables e below (T63.setTop (mkF m 145 #[.val (.ref a), .val (.long q), .second, .val (.int (3 : Int32)), .val (.int lw), .val (.int (1 : Int32)), .val (.int (32768 : Int32))] [(.int (2 : Int32)), (.ref b16)])) _
    refine XS.aloadN X63.here hx rfl (hb hby own_d_prog_35_method_1_code_145) rfl rfl ?_
    refine st65 _ ?_
    refine XS.iload X65.here hx rfl (hb hby own_d_prog_35_method_1_code_149) rfl ?_
    refine X65.aaload hx (j := (1 : Int32)) (v := (.ref b52)) (by rw [e65]; exact Ar66.1) (State.isArrayOf_alike hZ.alike Ar66.2.1) rfl Ar66.2.2 hin66 hat66 (g := (mkF m 151 #[.val (.ref a), .val (.long q), .second, .val (.int (3 : Int32)), .val (.int lw), .val (.int (1 : Int32)), .val (.int (32768 : Int32))] [(.int (1 : Int32)), (.ref b10), (.int (2 : Int32)), (.ref b16)])) rfl rfl (hb hby own_d_prog_35_method_1_code_151) _ ?_
    refine st68 _ ?_
    exact kk_)
  obtain ⟨T70, X70, e70, st70⟩ := getF X68 hx hZ hown (host := "") (Or.inl (hw _ (List.mem_of_getElem? (i := 22) rfl))) Via.refl e68 F68_2 (g := (mkF m 162 #[.val (.ref a), .val (.long q), .second, .val (.int (3 : Int32)), .val (.int lw), .val (.int (1 : Int32)), .val (.int (32768 : Int32))] [(.ref a)])) rfl rfl (hb hby own_d_prog_35_method_1_code_162)
  have fold71 : ((2 : Int32) * (1 : Int32)) = (2 : Int32) := by decide +kernel
  have fold72 : ((2 : Int32) + (1 : Int32)) = (3 : Int32) := by decide +kernel
  obtain ⟨T73, X73, e73, st73⟩ := getF X70 hx hZ hown (host := "") (Or.inl (hw _ (List.mem_of_getElem? (i := 20) rfl))) Via.refl e70 F68_1 (g := (mkF m 172 #[.val (.ref a), .val (.long q), .second, .val (.int (3 : Int32)), .val (.int lw), .val (.int (1 : Int32)), .val (.int (32768 : Int32))] [(.ref a), (.int (3 : Int32)), (.ref b16)])) rfl rfl (hb hby own_d_prog_35_method_1_code_172)
  obtain ⟨cl74, Ar74, q74, S74, M74, H74, G74⟩ := id V68_1
  have hin74 : ¬ ((1 : Int32) < 0 ∨ cl74.slots.size ≤ ((1 : Int32)).toNatClampNeg) := inb_of S74 ⟨by decide, by decide⟩
  have hat74 : cl74.slots[((1 : Int32)).toNatClampNeg]? = some (.ref b59) := Has.at H74 hin74 rfl
  obtain ⟨cl75, Ar75, q75, S75, M75, H75, G75⟩ := id V_b16_68
  have hin75 : ¬ ((3 : Int32) < 0 ∨ cl75.slots.size ≤ ((3 : Int32)).toNatClampNeg) := inb_of S75 ⟨by decide, by decide⟩
  obtain ⟨T76, h76, X76, e76, W76, st76⟩ := stR X73 hx hZ e73 Ar75 (j := (3 : Int32)) hin75 rfl (own_stoA Ar75 q75 O16 (Ins.self X68_2)) (g := (mkF m 178 #[.val (.ref a), .val (.long q), .second, .val (.int (3 : Int32)), .val (.int lw), .val (.int (1 : Int32)), .val (.int (32768 : Int32))] [(.ref b59), (.int (3 : Int32)), (.ref b16)])) rfl rfl (hb hby own_d_prog_35_method_1_code_178)
  have V_b16_76 : Arv Z h76 b16 k16 (.array .long) (5 : Int32) [(.ref b22), (.ref b29), (.ref b52), (.ref b59), .null] .null := Arv.set Ar75 q75 S75 M75 H75 G75 rfl W76 3 rfl (Nat.le_of_ble_eq_true rfl)
  have F76_0 := F68_0.other W76 (Or.inl ne_a_b16)
  have F76_1 := F68_1.other W76 (Or.inl ne_a_b16)
  have F76_2 := F68_2.other W76 (Or.inl ne_a_b16)
  have X76_0 := X68_0.wr W76
  have X76_1 := X68_1.wr W76
  have X76_2 := X68_2.wr W76
  have S76_0 := S68_0.wr W76
  have V76_0 := V68_0.other W76 ne_b10_b16
  have V76_1 := V68_1.other W76 ne_b12_b16
  have V76_3 := V68_3.other W76 (Ne.symm ne_b16_b22)
  have V76_4 := V68_4.other W76 (Ne.symm ne_b16_b29)
  have V76_5 := V68_5.other W76 (Ne.symm ne_b16_b52)
  have V76_6 := V68_6.other W76 (Ne.symm ne_b16_b59)
  have z76 : n0 ≤ h76.size := by rw [W76.size]; exact z68
  have K76 : Keep h0 h76 [a] := K68.wr W76 (Or.inr sz_b16)
  have N76 := Fr.snoc X76 N68 g_b16
  have fold77 : ((1 : Int32) + (1 : Int32)) = (2 : Int32) := by decide +kernel
  have pre78 : ∀ tt_, Steps p.tables e below (T76.setTop (mkF m 78 #[.val (.ref a), .val (.long q), .second, .val (.int (3 : Int32)), .val (.int lw), .val (.int (2 : Int32)), .val (.int (32768 : Int32))] [])) tt_ → Steps p.tables e below (s₁.setTop (entryFrame m #[(.ref a), (.long q)] 7)) tt_ := fun tt_ kk_ => pre69 tt_ (by
    show Steps p.tables e below (T68.setTop (mkF m 153 #[.val (.ref a), .val (.long q), .second, .val (.int (3 : Int32)), .val (.int lw), .val (.int (1 : Int32)), .val (.int (32768 : Int32))] [])) _
    refine XS.iload X68.here hx rfl (hb hby own_d_prog_35_method_1_code_153) rfl ?_
    refine XS.sipush X68.here hx rfl (hb hby own_d_prog_35_method_1_code_155) ?_
    show Steps p.tables e below (T68.setTop (mkF m 158 #[.val (.ref a), .val (.long q), .second, .val (.int (3 : Int32)), .val (.int lw), .val (.int (1 : Int32)), .val (.int (32768 : Int32))] [(.int (32764 : Int32)), (.int (32768 : Int32))])) _
    refine XS.icmpNo X68.here hx rfl (hb hby own_d_prog_35_method_1_code_158) rfl (tlt ((by decide) : (32764 : Int32) < (32768 : Int32))).2.2.2 ?_
    refine XS.aloadN X68.here hx rfl (hb hby own_d_prog_35_method_1_code_161) rfl rfl ?_
    refine st70 _ ?_
    refine XS.iconst X70.here hx rfl (hb hby own_d_prog_35_method_1_code_165) ?_
    refine XS.iload X70.here hx rfl (hb hby own_d_prog_35_method_1_code_166) rfl ?_
    refine XS.imul X70.here hx rfl (hb hby own_d_prog_35_method_1_code_168) rfl ?_
    show Steps p.tables e below (T70.setTop (mkF m 169 #[.val (.ref a), .val (.long q), .second, .val (.int (3 : Int32)), .val (.int lw), .val (.int (1 : Int32)), .val (.int (32768 : Int32))] [(.int ((2 : Int32) * (1 : Int32))), (.ref b16)])) _
    rw [fold71]
    show Steps p.tables e below (T70.setTop (mkF m 169 #[.val (.ref a), .val (.long q), .second, .val (.int (3 : Int32)), .val (.int lw), .val (.int (1 : Int32)), .val (.int (32768 : Int32))] [(.int (2 : Int32)), (.ref b16)])) _
    refine XS.iconst X70.here hx rfl (hb hby own_d_prog_35_method_1_code_169) ?_
    show Steps p.tables e below (T70.setTop (mkF m 170 #[.val (.ref a), .val (.long q), .second, .val (.int (3 : Int32)), .val (.int lw), .val (.int (1 : Int32)), .val (.int (32768 : Int32))] [(.int (1 : Int32)), (.int (2 : Int32)), (.ref b16)])) _
    refine XS.iadd X70.here hx rfl (hb hby own_d_prog_35_method_1_code_170) rfl ?_
    show Steps p.tables e below (T70.setTop (mkF m 171 #[.val (.ref a), .val (.long q), .second, .val (.int (3 : Int32)), .val (.int lw), .val (.int (1 : Int32)), .val (.int (32768 : Int32))] [(.int ((2 : Int32) + (1 : Int32))), (.ref b16)])) _
    rw [fold72]
    show Steps p.tables e below (T70.setTop (mkF m 171 #[.val (.ref a), .val (.long q), .second, .val (.int (3 : Int32)), .val (.int lw), .val (.int (1 : Int32)), .val (.int (32768 : Int32))] [(.int (3 : Int32)), (.ref b16)])) _
    refine XS.aloadN X70.here hx rfl (hb hby own_d_prog_35_method_1_code_171) rfl rfl ?_
    refine st73 _ ?_
    refine XS.iload X73.here hx rfl (hb hby own_d_prog_35_method_1_code_175) rfl ?_
    refine X73.aaload hx (j := (1 : Int32)) (v := (.ref b59)) (by rw [e73]; exact Ar74.1) (State.isArrayOf_alike hZ.alike Ar74.2.1) rfl Ar74.2.2 hin74 hat74 (g := (mkF m 177 #[.val (.ref a), .val (.long q), .second, .val (.int (3 : Int32)), .val (.int lw), .val (.int (1 : Int32)), .val (.int (32768 : Int32))] [(.int (1 : Int32)), (.ref b12), (.int (3 : Int32)), (.ref b16)])) rfl rfl (hb hby own_d_prog_35_method_1_code_177) _ ?_
    refine st76 _ ?_
    refine XS.iinc X76.here hx rfl (hb hby own_d_prog_35_method_1_code_179) rfl (l' := #[.val (.ref a), .val (.long q), .second, .val (.int (3 : Int32)), .val (.int lw), .val (.int ((1 : Int32) + (1 : Int32))), .val (.int (32768 : Int32))]) rfl ?_
    show Steps p.tables e below (T76.setTop (mkF m 182 #[.val (.ref a), .val (.long q), .second, .val (.int (3 : Int32)), .val (.int lw), .val (.int ((1 : Int32) + (1 : Int32))), .val (.int (32768 : Int32))] [])) _
    rw [fold77]
    show Steps p.tables e below (T76.setTop (mkF m 182 #[.val (.ref a), .val (.long q), .second, .val (.int (3 : Int32)), .val (.int lw), .val (.int (2 : Int32)), .val (.int (32768 : Int32))] [])) _
    refine XS.goto X76.here hx rfl (pc0 := 182) (pc' := 78) rfl (hb hby own_d_prog_35_method_1_code_182) (by decide) (by decide) ?_
    exact kk_)
  have fold79 : ((3 : Int32) - (1 : Int32)) = (2 : Int32) := by decide +kernel
  obtain ⟨T80, X80, e80, st80⟩ := getF X76 hx hZ hown (host := "") (Or.inl (hw _ (List.mem_of_getElem? (i := 18) rfl))) Via.refl e76 F76_0 (g := (mkF m 102 #[.val (.ref a), .val (.long q), .second, .val (.int (3 : Int32)), .val (.int lw), .val (.int (2 : Int32)), .val (.int lw)] [(.ref a)])) rfl rfl (hb hby own_d_prog_35_method_1_code_102)
  obtain ⟨_, _, ⟨T81, L81, k81, n81⟩, -, X81, ⟨Lc81, hQ81, l81, y81, z81⟩, st81⟩ := Jvm.LawKit.callS X80 hx (y := (⟨"java/lang/Math", "min", "(II)I"⟩ : MethodName)) hown (mvT hZ (hw _ (List.mem_of_getElem? (i := 24) rfl))) (mvT hZ (hw _ (List.mem_of_getElem? (i := 25) rfl))) (mvT hZ (hw _ (List.mem_of_getElem? (i := 26) rfl))) (mvT hZ (hw _ (List.mem_of_getElem? (i := 27) rfl))) (by decide) (backOf (W := 2) (rmMin l Z a0 hw [] lw (32764 : Int32) (own_min lw (32764 : Int32)) h76 n0 z76 rfl) hZ (hw _ (List.mem_of_getElem? (i := 27) rfl)) (hw _ (List.mem_of_getElem? (i := 26) rfl)) (by decide) (by decide)) (g := (mkF m 112 #[.val (.ref a), .val (.long q), .second, .val (.int (3 : Int32)), .val (.int lw), .val (.int (2 : Int32)), .val (.int lw)] [(.int (32764 : Int32)), (.int lw), (.int (2 : Int32)), (.ref b10)])) rfl (by rw [hml]; rfl) (argsL := [(.int lw), (.int (32764 : Int32))]) (rest := [(.int (2 : Int32)), (.ref b10)]) (lenOf own_pd0 rfl) rfl (by show 2 * 0 + _ ≤ _; exact Nat.le_of_eq rfl) (hb hby own_d_prog_35_method_1_code_112) (fun _ _ => ⟨rfl, e80, (by decide : 7 + 0 ≤ _), (by decide : 65547 + 0 ≤ _)⟩)
  dsimp only [Pt.U, Pt.locs, Pt.cells, Pt.slots] at X81 l81 y81 z81 st81 hQ81
  replace l81 := l81.symm; subst l81 y81 z81
  obtain ⟨rfl, N81q, e81⟩ := hQ81
  have N81 := Fr.app N76 N81q
  obtain ⟨T82, h82, k82, X82, e82, E82, A82, Ea82, st82⟩ := newPE X81 hx hZ (hw _ (List.mem_of_getElem? (i := 28) rfl)) e81 (g := (mkF m 115 #[.val (.ref a), .val (.long q), .second, .val (.int (3 : Int32)), .val (.int lw), .val (.int (2 : Int32)), .val (.int lw)] [(.int (own_min lw (32764 : Int32))), (.int (2 : Int32)), (.ref b10)])) rfl (hb hby own_d_prog_35_method_1_code_115) rfl (own_hneg hlb) (cap := 32764) (own_hcap hlb) (by decide) (by decide) (by decide) (ad := "[J") (by decide +kernel)
  obtain ⟨b82, g82⟩ : ∃ z, z = h76.size := ⟨_, rfl⟩
  rw [← g82] at A82 st82 Ea82
  have g_b82 : n0 ≤ b82 := Nat.le_trans z76 (Nat.le_of_eq g82.symm)
  have sz_b82 : h0.size ≤ b82 := Nat.le_trans K76.1 (Nat.le_of_eq g82.symm)
  have F82_0 := F76_0.ext E82
  have F82_1 := F76_1.ext E82
  have F82_2 := F76_2.ext E82
  have X82_0 := X76_0.ext E82
  have S82_0 := S76_0.ext E82
  have V82_0 := V76_0.ext E82
  have V82_1 := V76_1.ext E82
  have V82_2 := V_b16_76.ext E82
  have V82_3 := V76_3.ext E82
  have V82_4 := V76_4.ext E82
  have V82_5 := V76_5.ext E82
  have V82_6 := V76_6.ext E82
  have z82 : n0 ≤ h82.size := Nat.le_trans z76 E82.1
  have K82 : Keep h0 h82 [a] := K76.ext E82
  have V_b82 : Arv Z h82 b82 k82 .long (own_min lw (32764 : Int32)) [] (.long (0 : Int64)) := (Arv.new A82 (own_hneg hlb)).pad (pad_rep [] (.long (0 : Int64)) 0)
  obtain ⟨cl83, Ar83, q83, S83, M83, H83, G83⟩ := id V82_0
  have hin83 : ¬ ((2 : Int32) < 0 ∨ cl83.slots.size ≤ ((2 : Int32)).toNatClampNeg) := inb_of S83 ⟨by decide, by decide⟩
  obtain ⟨T84, h84, X84, e84, W84, st84⟩ := stR X82 hx hZ e82 Ar83 (j := (2 : Int32)) hin83 rfl (own_stoA Ar83 q83 O10 (Ins.self Ea82)) (g := (mkF m 117 #[.val (.ref a), .val (.long q), .second, .val (.int (3 : Int32)), .val (.int lw), .val (.int (2 : Int32)), .val (.int lw)] [(.ref b82), (.int (2 : Int32)), (.ref b10)])) rfl rfl (hb hby own_d_prog_35_method_1_code_117)
  have V_b10_84 : Arv Z h84 b10 k10 (.array .long) (3 : Int32) [(.ref b22), (.ref b52), (.ref b82)] .null := Arv.set Ar83 q83 S83 M83 H83 G83 rfl W84 2 rfl (Nat.le_of_ble_eq_true rfl)
  have F84_0 := F82_0.other W84 (Or.inl ne_a_b10)
  have F84_1 := F82_1.other W84 (Or.inl ne_a_b10)
  have F84_2 := F82_2.other W84 (Or.inl ne_a_b10)
  have X84_0 := X82_0.wr W84
  have X84_1 := Ea82.wr W84
  have S84_0 := S82_0.wr W84
  have V84_1 := V82_1.other W84 (Ne.symm ne_b10_b12)
  have V84_2 := V82_2.other W84 (Ne.symm ne_b10_b16)
  have V84_3 := V82_3.other W84 (Ne.symm ne_b10_b22)
  have V84_4 := V82_4.other W84 (Ne.symm ne_b10_b29)
  have V84_5 := V82_5.other W84 (Ne.symm ne_b10_b52)
  have ne_b10_b59 : b10 ≠ b59 := Nat.ne_of_lt (Nat.lt_of_lt_of_le (V_b10_54).lt (Nat.le_of_eq g59.symm))
  have V84_6 := V82_6.other W84 (Ne.symm ne_b10_b59)
  have ne_b10_b82 : b10 ≠ b82 := Nat.ne_of_lt (Nat.lt_of_lt_of_le (V76_0).lt (Nat.le_of_eq g82.symm))
  have V84_7 := V_b82.other W84 (Ne.symm ne_b10_b82)
  have z84 : n0 ≤ h84.size := by rw [W84.size]; exact z82
  have K84 : Keep h0 h84 [a] := K82.wr W84 (Or.inr sz_b10)
  have N84 := Fr.snoc X84 N81 g_b10
  have pre85 : ∀ tt_, Steps p.tables e below (T84.setTop (mkF m 118 #[.val (.ref a), .val (.long q), .second, .val (.int (3 : Int32)), .val (.int lw), .val (.int (2 : Int32)), .val (.int lw)] [])) tt_ → Steps p.tables e below (s₁.setTop (entryFrame m #[(.ref a), (.long q)] 7)) tt_ := fun tt_ kk_ => pre78 tt_ (by
    show Steps p.tables e below (T76.setTop (mkF m 78 #[.val (.ref a), .val (.long q), .second, .val (.int (3 : Int32)), .val (.int lw), .val (.int (2 : Int32)), .val (.int (32768 : Int32))] [])) _
    refine XS.iload X76.here hx rfl (hb hby own_d_prog_35_method_1_code_78) rfl ?_
    refine XS.iloadN X76.here hx rfl (hb hby own_d_prog_35_method_1_code_80) rfl ?_
    refine XS.icmpNo X76.here hx rfl (hb hby own_d_prog_35_method_1_code_81) rfl (tlt ((by decide) : (2 : Int32) < (3 : Int32))).2.1 ?_
    refine XS.iload X76.here hx rfl (hb hby own_d_prog_35_method_1_code_84) rfl ?_
    refine XS.iloadN X76.here hx rfl (hb hby own_d_prog_35_method_1_code_86) rfl ?_
    refine XS.iconst X76.here hx rfl (hb hby own_d_prog_35_method_1_code_87) ?_
    show Steps p.tables e below (T76.setTop (mkF m 88 #[.val (.ref a), .val (.long q), .second, .val (.int (3 : Int32)), .val (.int lw), .val (.int (2 : Int32)), .val (.int (32768 : Int32))] [(.int (1 : Int32)), (.int (3 : Int32)), (.int (2 : Int32))])) _
    refine XS.isub X76.here hx rfl (hb hby own_d_prog_35_method_1_code_88) rfl ?_
    show Steps p.tables e below (T76.setTop (mkF m 89 #[.val (.ref a), .val (.long q), .second, .val (.int (3 : Int32)), .val (.int lw), .val (.int (2 : Int32)), .val (.int (32768 : Int32))] [(.int ((3 : Int32) - (1 : Int32))), (.int (2 : Int32))])) _
    rw [fold79]
    show Steps p.tables e below (T76.setTop (mkF m 89 #[.val (.ref a), .val (.long q), .second, .val (.int (3 : Int32)), .val (.int lw), .val (.int (2 : Int32)), .val (.int (32768 : Int32))] [(.int (2 : Int32)), (.int (2 : Int32))])) _
    refine XS.icmpYes X76.here hx rfl (pc0 := 89) (pc' := 97) rfl (hb hby own_d_prog_35_method_1_code_89) rfl (flt ((by decide) : ¬ ((2 : Int32) < (2 : Int32)))).2.1 (by decide) (by decide) ?_
    refine XS.iload X76.here hx rfl (hb hby own_d_prog_35_method_1_code_97) rfl ?_
    refine XS.istore X76.here hx rfl (hb hby own_d_prog_35_method_1_code_99) rfl (l' := #[.val (.ref a), .val (.long q), .second, .val (.int (3 : Int32)), .val (.int lw), .val (.int (2 : Int32)), .val (.int lw)]) rfl ?_
    refine XS.aloadN X76.here hx rfl (hb hby own_d_prog_35_method_1_code_101) rfl rfl ?_
    refine st80 _ ?_
    refine XS.iload X80.here hx rfl (hb hby own_d_prog_35_method_1_code_105) rfl ?_
    show Steps p.tables e below (T80.setTop (mkF m 107 #[.val (.ref a), .val (.long q), .second, .val (.int (3 : Int32)), .val (.int lw), .val (.int (2 : Int32)), .val (.int lw)] [(.int (2 : Int32)), (.ref b10)])) _
    refine XS.iload X80.here hx rfl (hb hby own_d_prog_35_method_1_code_107) rfl ?_
    refine XS.sipush X80.here hx rfl (hb hby own_d_prog_35_method_1_code_109) ?_
    show Steps p.tables e below (T80.setTop (mkF m 112 #[.val (.ref a), .val (.long q), .second, .val (.int (3 : Int32)), .val (.int lw), .val (.int (2 : Int32)), .val (.int lw)] [(.int (32764 : Int32)), (.int lw), (.int (2 : Int32)), (.ref b10)])) _
    refine st81 _ ?_
    refine st82 _ ?_
    refine st84 _ ?_
    exact kk_)
  obtain ⟨T86, X86, e86, st86⟩ := getF X84 hx hZ hown (host := "") (Or.inl (hw _ (List.mem_of_getElem? (i := 20) rfl))) Via.refl e84 F84_1 (g := (mkF m 119 #[.val (.ref a), .val (.long q), .second, .val (.int (3 : Int32)), .val (.int lw), .val (.int (2 : Int32)), .val (.int lw)] [(.ref a)])) rfl rfl (hb hby own_d_prog_35_method_1_code_119)
  obtain ⟨_, _, ⟨T87, L87, k87, n87⟩, -, X87, ⟨Lc87, hQ87, l87, y87, z87⟩, st87⟩ := Jvm.LawKit.callS X86 hx (y := (⟨"java/lang/Math", "max", "(II)I"⟩ : MethodName)) hown (mvT hZ (hw _ (List.mem_of_getElem? (i := 30) rfl))) (mvT hZ (hw _ (List.mem_of_getElem? (i := 31) rfl))) (mvT hZ (hw _ (List.mem_of_getElem? (i := 26) rfl))) (mvT hZ (hw _ (List.mem_of_getElem? (i := 32) rfl))) (by decide) (backOf (W := 2) (rmMax l Z a0 hw [] (lw - (32764 : Int32)) (0 : Int32) (own_max (lw - (32764 : Int32)) (0 : Int32)) h84 n0 z84 rfl) hZ (hw _ (List.mem_of_getElem? (i := 32) rfl)) (hw _ (List.mem_of_getElem? (i := 26) rfl)) (by decide) (by decide)) (g := (mkF m 131 #[.val (.ref a), .val (.long q), .second, .val (.int (3 : Int32)), .val (.int lw), .val (.int (2 : Int32)), .val (.int lw)] [(.int (0 : Int32)), (.int (lw - (32764 : Int32))), (.int (2 : Int32)), (.ref b12)])) rfl (by rw [hml]; rfl) (argsL := [(.int (lw - (32764 : Int32))), (.int (0 : Int32))]) (rest := [(.int (2 : Int32)), (.ref b12)]) (lenOf own_pd0 rfl) rfl (by show 2 * 0 + _ ≤ _; exact Nat.le_of_eq rfl) (hb hby own_d_prog_35_method_1_code_131) (fun _ _ => ⟨rfl, e86, (by decide : 8 + 0 ≤ _), (by decide : 98311 + 0 ≤ _)⟩)
  dsimp only [Pt.U, Pt.locs, Pt.cells, Pt.slots] at X87 l87 y87 z87 st87 hQ87
  replace l87 := l87.symm; subst l87 y87 z87
  obtain ⟨rfl, N87q, e87⟩ := hQ87
  have N87 := Fr.app N84 N87q
  obtain ⟨T88, h88, k88, X88, e88, E88, A88, Ea88, st88⟩ := newPE X87 hx hZ (hw _ (List.mem_of_getElem? (i := 28) rfl)) e87 (g := (mkF m 134 #[.val (.ref a), .val (.long q), .second, .val (.int (3 : Int32)), .val (.int lw), .val (.int (2 : Int32)), .val (.int lw)] [(.int (own_max (lw - (32764 : Int32)) (0 : Int32))), (.int (2 : Int32)), (.ref b12)])) rfl (hb hby own_d_prog_35_method_1_code_134) rfl (own_tneg hlb) (cap := 4) (own_tcap hlb) (by decide) (by decide) (by decide) (ad := "[J") (by decide +kernel)
  obtain ⟨b88, g88⟩ : ∃ z, z = h84.size := ⟨_, rfl⟩
  rw [← g88] at A88 st88 Ea88
  have g_b88 : n0 ≤ b88 := Nat.le_trans z84 (Nat.le_of_eq g88.symm)
  have sz_b88 : h0.size ≤ b88 := Nat.le_trans K84.1 (Nat.le_of_eq g88.symm)
  have F88_0 := F84_0.ext E88
  have F88_1 := F84_1.ext E88
  have F88_2 := F84_2.ext E88
  have X88_0 := X84_0.ext E88
  have X88_1 := X84_1.ext E88
  have S88_0 := S84_0.ext E88
  have V88_0 := V_b10_84.ext E88
  have V88_1 := V84_1.ext E88
  have V88_2 := V84_2.ext E88
  have V88_3 := V84_3.ext E88
  have V88_4 := V84_4.ext E88
  have V88_5 := V84_5.ext E88
  have V88_6 := V84_6.ext E88
  have V88_7 := V84_7.ext E88
  have z88 : n0 ≤ h88.size := Nat.le_trans z84 E88.1
  have K88 : Keep h0 h88 [a] := K84.ext E88
  have V_b88 : Arv Z h88 b88 k88 .long (own_max (lw - (32764 : Int32)) (0 : Int32)) [] (.long (0 : Int64)) := (Arv.new A88 (own_tneg hlb)).pad (pad_rep [] (.long (0 : Int64)) 0)
  obtain ⟨cl89, Ar89, q89, S89, M89, H89, G89⟩ := id V88_1
  have hin89 : ¬ ((2 : Int32) < 0 ∨ cl89.slots.size ≤ ((2 : Int32)).toNatClampNeg) := inb_of S89 ⟨by decide, by decide⟩
  obtain ⟨T90, h90, X90, e90, W90, st90⟩ := stR X88 hx hZ e88 Ar89 (j := (2 : Int32)) hin89 rfl (own_stoA Ar89 q89 O12 (Ins.self Ea88)) (g := (mkF m 136 #[.val (.ref a), .val (.long q), .second, .val (.int (3 : Int32)), .val (.int lw), .val (.int (2 : Int32)), .val (.int lw)] [(.ref b88), (.int (2 : Int32)), (.ref b12)])) rfl rfl (hb hby own_d_prog_35_method_1_code_136)
  have V_b12_90 : Arv Z h90 b12 k12 (.array .long) (3 : Int32) [(.ref b29), (.ref b59), (.ref b88)] .null := Arv.set Ar89 q89 S89 M89 H89 G89 rfl W90 2 rfl (Nat.le_of_ble_eq_true rfl)
  have F90_0 := F88_0.other W90 (Or.inl ne_a_b12)
  have F90_1 := F88_1.other W90 (Or.inl ne_a_b12)
  have F90_2 := F88_2.other W90 (Or.inl ne_a_b12)
  have X90_0 := X88_0.wr W90
  have X90_1 := X88_1.wr W90
  have X90_2 := Ea88.wr W90
  have S90_0 := S88_0.wr W90
  have V90_0 := V88_0.other W90 ne_b10_b12
  have V90_2 := V88_2.other W90 (Ne.symm ne_b12_b16)
  have V90_3 := V88_3.other W90 (Ne.symm ne_b12_b22)
  have V90_4 := V88_4.other W90 (Ne.symm ne_b12_b29)
  have V90_5 := V88_5.other W90 (Ne.symm ne_b12_b52)
  have V90_6 := V88_6.other W90 (Ne.symm ne_b12_b59)
  have ne_b12_b82 : b12 ≠ b82 := Nat.ne_of_lt (Nat.lt_of_lt_of_le (V76_1).lt (Nat.le_of_eq g82.symm))
  have V90_7 := V88_7.other W90 (Ne.symm ne_b12_b82)
  have ne_b12_b88 : b12 ≠ b88 := Nat.ne_of_lt (Nat.lt_of_lt_of_le (V84_1).lt (Nat.le_of_eq g88.symm))
  have V90_8 := V_b88.other W90 (Ne.symm ne_b12_b88)
  have z90 : n0 ≤ h90.size := by rw [W90.size]; exact z88
  have K90 : Keep h0 h90 [a] := K88.wr W90 (Or.inr sz_b12)
  have N90 := Fr.snoc X90 N87 g_b12
  have pre91 : ∀ tt_, Steps p.tables e below (T90.setTop (mkF m 137 #[.val (.ref a), .val (.long q), .second, .val (.int (3 : Int32)), .val (.int lw), .val (.int (2 : Int32)), .val (.int lw)] [])) tt_ → Steps p.tables e below (s₁.setTop (entryFrame m #[(.ref a), (.long q)] 7)) tt_ := fun tt_ kk_ => pre85 tt_ (by
    show Steps p.tables e below (T84.setTop (mkF m 118 #[.val (.ref a), .val (.long q), .second, .val (.int (3 : Int32)), .val (.int lw), .val (.int (2 : Int32)), .val (.int lw)] [])) _
    refine XS.aloadN X84.here hx rfl (hb hby own_d_prog_35_method_1_code_118) rfl rfl ?_
    refine st86 _ ?_
    refine XS.iload X86.here hx rfl (hb hby own_d_prog_35_method_1_code_122) rfl ?_
    refine XS.iload X86.here hx rfl (hb hby own_d_prog_35_method_1_code_124) rfl ?_
    refine XS.sipush X86.here hx rfl (hb hby own_d_prog_35_method_1_code_126) ?_
    show Steps p.tables e below (T86.setTop (mkF m 129 #[.val (.ref a), .val (.long q), .second, .val (.int (3 : Int32)), .val (.int lw), .val (.int (2 : Int32)), .val (.int lw)] [(.int (32764 : Int32)), (.int lw), (.int (2 : Int32)), (.ref b12)])) _
    refine XS.isub X86.here hx rfl (hb hby own_d_prog_35_method_1_code_129) rfl ?_
    refine XS.iconst X86.here hx rfl (hb hby own_d_prog_35_method_1_code_130) ?_
    show Steps p.tables e below (T86.setTop (mkF m 131 #[.val (.ref a), .val (.long q), .second, .val (.int (3 : Int32)), .val (.int lw), .val (.int (2 : Int32)), .val (.int lw)] [(.int (0 : Int32)), (.int (lw - (32764 : Int32))), (.int (2 : Int32)), (.ref b12)])) _
    refine st87 _ ?_
    refine st88 _ ?_
    refine st90 _ ?_
    exact kk_)
  obtain ⟨T92, X92, e92, st92⟩ := getF X90 hx hZ hown (host := "") (Or.inl (hw _ (List.mem_of_getElem? (i := 22) rfl))) Via.refl e90 F90_2 (g := (mkF m 138 #[.val (.ref a), .val (.long q), .second, .val (.int (3 : Int32)), .val (.int lw), .val (.int (2 : Int32)), .val (.int lw)] [(.ref a)])) rfl rfl (hb hby own_d_prog_35_method_1_code_138)
  have fold93 : ((2 : Int32) * (2 : Int32)) = (4 : Int32) := by decide +kernel
  obtain ⟨T94, X94, e94, st94⟩ := getF X92 hx hZ hown (host := "") (Or.inl (hw _ (List.mem_of_getElem? (i := 18) rfl))) Via.refl e92 F90_0 (g := (mkF m 146 #[.val (.ref a), .val (.long q), .second, .val (.int (3 : Int32)), .val (.int lw), .val (.int (2 : Int32)), .val (.int lw)] [(.ref a), (.int (4 : Int32)), (.ref b16)])) rfl rfl (hb hby own_d_prog_35_method_1_code_146)
  obtain ⟨cl95, Ar95, q95, S95, M95, H95, G95⟩ := id V90_0
  have hin95 : ¬ ((2 : Int32) < 0 ∨ cl95.slots.size ≤ ((2 : Int32)).toNatClampNeg) := inb_of S95 ⟨by decide, by decide⟩
  have hat95 : cl95.slots[((2 : Int32)).toNatClampNeg]? = some (.ref b82) := Has.at H95 hin95 rfl
  obtain ⟨cl96, Ar96, q96, S96, M96, H96, G96⟩ := id V90_2
  have hin96 : ¬ ((4 : Int32) < 0 ∨ cl96.slots.size ≤ ((4 : Int32)).toNatClampNeg) := inb_of S96 ⟨by decide, by decide⟩
  obtain ⟨T97, h97, X97, e97, W97, st97⟩ := stR X94 hx hZ e94 Ar96 (j := (4 : Int32)) hin96 rfl (own_stoA Ar96 q96 O16 (Ins.self X90_1)) (g := (mkF m 152 #[.val (.ref a), .val (.long q), .second, .val (.int (3 : Int32)), .val (.int lw), .val (.int (2 : Int32)), .val (.int lw)] [(.ref b82), (.int (4 : Int32)), (.ref b16)])) rfl rfl (hb hby own_d_prog_35_method_1_code_152)
  have V_b16_97 : Arv Z h97 b16 k16 (.array .long) (5 : Int32) [(.ref b22), (.ref b29), (.ref b52), (.ref b59), (.ref b82)] .null := Arv.set Ar96 q96 S96 M96 H96 G96 rfl W97 4 rfl (Nat.le_of_ble_eq_true rfl)
  have F97_0 := F90_0.other W97 (Or.inl ne_a_b16)
  have F97_1 := F90_1.other W97 (Or.inl ne_a_b16)
  have F97_2 := F90_2.other W97 (Or.inl ne_a_b16)
  have X97_0 := X90_0.wr W97
  have X97_1 := X90_1.wr W97
  have X97_2 := X90_2.wr W97
  have S97_0 := S90_0.wr W97
  have V97_0 := V90_0.other W97 ne_b10_b16
  have V97_1 := V_b12_90.other W97 ne_b12_b16
  have V97_3 := V90_3.other W97 (Ne.symm ne_b16_b22)
  have V97_4 := V90_4.other W97 (Ne.symm ne_b16_b29)
  have V97_5 := V90_5.other W97 (Ne.symm ne_b16_b52)
  have V97_6 := V90_6.other W97 (Ne.symm ne_b16_b59)
  have ne_b16_b82 : b16 ≠ b82 := Nat.ne_of_lt (Nat.lt_of_lt_of_le (V_b16_76).lt (Nat.le_of_eq g82.symm))
  have V97_7 := V90_7.other W97 (Ne.symm ne_b16_b82)
  have ne_b16_b88 : b16 ≠ b88 := Nat.ne_of_lt (Nat.lt_of_lt_of_le (V84_2).lt (Nat.le_of_eq g88.symm))
  have V97_8 := V90_8.other W97 (Ne.symm ne_b16_b88)
  have z97 : n0 ≤ h97.size := by rw [W97.size]; exact z90
  have K97 : Keep h0 h97 [a] := K90.wr W97 (Or.inr sz_b16)
  have N97 := Fr.snoc X97 N90 g_b16
  have pre98 : ∀ tt_, Steps p.tables e below (T97.setTop (mkF m 153 #[.val (.ref a), .val (.long q), .second, .val (.int (3 : Int32)), .val (.int lw), .val (.int (2 : Int32)), .val (.int lw)] [])) tt_ → Steps p.tables e below (s₁.setTop (entryFrame m #[(.ref a), (.long q)] 7)) tt_ := fun tt_ kk_ => pre91 tt_ (by
    show Steps p.tables e below (T90.setTop (mkF m 137 #[.val (.ref a), .val (.long q), .second, .val (.int (3 : Int32)), .val (.int lw), .val (.int (2 : Int32)), .val (.int lw)] [])) _
    refine XS.aloadN X90.here hx rfl (hb hby own_d_prog_35_method_1_code_137) rfl rfl ?_
    refine st92 _ ?_
    refine XS.iconst X92.here hx rfl (hb hby own_d_prog_35_method_1_code_141) ?_
    refine XS.iload X92.here hx rfl (hb hby own_d_prog_35_method_1_code_142) rfl ?_
    refine XS.imul X92.here hx rfl (hb hby own_d_prog_35_method_1_code_144) rfl ?_
    show Steps p.tables e below (T92.setTop (mkF m 145 #[.val (.ref a), .val (.long q), .second, .val (.int (3 : Int32)), .val (.int lw), .val (.int (2 : Int32)), .val (.int lw)] [(.int ((2 : Int32) * (2 : Int32))), (.ref b16)])) _
    rw [fold93]
    show Steps p.tables e below (T92.setTop (mkF m 145 #[.val (.ref a), .val (.long q), .second, .val (.int (3 : Int32)), .val (.int lw), .val (.int (2 : Int32)), .val (.int lw)] [(.int (4 : Int32)), (.ref b16)])) _
    refine XS.aloadN X92.here hx rfl (hb hby own_d_prog_35_method_1_code_145) rfl rfl ?_
    refine st94 _ ?_
    refine XS.iload X94.here hx rfl (hb hby own_d_prog_35_method_1_code_149) rfl ?_
    refine X94.aaload hx (j := (2 : Int32)) (v := (.ref b82)) (by rw [e94]; exact Ar95.1) (State.isArrayOf_alike hZ.alike Ar95.2.1) rfl Ar95.2.2 hin95 hat95 (g := (mkF m 151 #[.val (.ref a), .val (.long q), .second, .val (.int (3 : Int32)), .val (.int lw), .val (.int (2 : Int32)), .val (.int lw)] [(.int (2 : Int32)), (.ref b10), (.int (4 : Int32)), (.ref b16)])) rfl rfl (hb hby own_d_prog_35_method_1_code_151) _ ?_
    refine st97 _ ?_
    exact kk_)
  have fold99 : ((2 : Int32) + (1 : Int32)) = (3 : Int32) := by decide +kernel
  have pre100 : ∀ tt_, Steps p.tables e below (T97.setTop (mkF m 78 #[.val (.ref a), .val (.long q), .second, .val (.int (3 : Int32)), .val (.int lw), .val (.int (3 : Int32)), .val (.int lw)] [])) tt_ → Steps p.tables e below (s₁.setTop (entryFrame m #[(.ref a), (.long q)] 7)) tt_ := fun tt_ kk_ => pre98 tt_ (by
    show Steps p.tables e below (T97.setTop (mkF m 153 #[.val (.ref a), .val (.long q), .second, .val (.int (3 : Int32)), .val (.int lw), .val (.int (2 : Int32)), .val (.int lw)] [])) _
    refine XS.iload X97.here hx rfl (hb hby own_d_prog_35_method_1_code_153) rfl ?_
    refine XS.sipush X97.here hx rfl (hb hby own_d_prog_35_method_1_code_155) ?_
    refine XS.icmpYes X97.here hx rfl (pc0 := 158) (pc' := 179) rfl (hb hby own_d_prog_35_method_1_code_158) rfl (flt (ht : ¬ ((32764 : Int32) < lw))).2.2.2 (by decide) (by decide) ?_
    show Steps p.tables e below (T97.setTop (mkF m 179 #[.val (.ref a), .val (.long q), .second, .val (.int (3 : Int32)), .val (.int lw), .val (.int (2 : Int32)), .val (.int lw)] [])) _
    refine XS.iinc X97.here hx rfl (hb hby own_d_prog_35_method_1_code_179) rfl (l' := #[.val (.ref a), .val (.long q), .second, .val (.int (3 : Int32)), .val (.int lw), .val (.int ((2 : Int32) + (1 : Int32))), .val (.int lw)]) rfl ?_
    show Steps p.tables e below (T97.setTop (mkF m 182 #[.val (.ref a), .val (.long q), .second, .val (.int (3 : Int32)), .val (.int lw), .val (.int ((2 : Int32) + (1 : Int32))), .val (.int lw)] [])) _
    rw [fold99]
    show Steps p.tables e below (T97.setTop (mkF m 182 #[.val (.ref a), .val (.long q), .second, .val (.int (3 : Int32)), .val (.int lw), .val (.int (3 : Int32)), .val (.int lw)] [])) _
    refine XS.goto X97.here hx rfl (pc0 := 182) (pc' := 78) rfl (hb hby own_d_prog_35_method_1_code_182) (by decide) (by decide) ?_
    exact kk_)
  have pre101 : ∀ tt_, Steps p.tables e below (T97.setTop (mkF m 185 #[.val (.ref a), .val (.long q), .second, .val (.int (3 : Int32)), .val (.int lw), .val (.int (3 : Int32)), .val (.int lw)] [])) tt_ → Steps p.tables e below (s₁.setTop (entryFrame m #[(.ref a), (.long q)] 7)) tt_ := fun tt_ kk_ => pre100 tt_ (by
    show Steps p.tables e below (T97.setTop (mkF m 78 #[.val (.ref a), .val (.long q), .second, .val (.int (3 : Int32)), .val (.int lw), .val (.int (3 : Int32)), .val (.int lw)] [])) _
    refine XS.iload X97.here hx rfl (hb hby own_d_prog_35_method_1_code_78) rfl ?_
    refine XS.iloadN X97.here hx rfl (hb hby own_d_prog_35_method_1_code_80) rfl ?_
    refine XS.icmpYes X97.here hx rfl (pc0 := 81) (pc' := 185) rfl (hb hby own_d_prog_35_method_1_code_81) rfl (flt ((by decide) : ¬ ((3 : Int32) < (3 : Int32)))).2.1 (by decide) (by decide) ?_
    exact kk_)
  obtain ⟨fs, hr, hrun, hended, hW, hsame⟩ := X97.leave (v := none) (fun _ => rfl)
  refine ⟨_, _, pre101 _ ?_, hrun, hended, _, _, rfl, ?_, ⟨_, rfl⟩, hW, hsame.mono (by decide) (by decide)⟩
  · show Steps p.tables e below (T97.setTop (mkF m 185 #[.val (.ref a), .val (.long q), .second, .val (.int (3 : Int32)), .val (.int lw), .val (.int (3 : Int32)), .val (.int lw)] [])) _
    exact X97.returnOut hx Bd.returns (hb hby own_d_prog_35_method_1_code_185) hr
  · show QI Z a 3 lw h0 n0 _ T97.heap _
    rw [e97]
    have H1 : ∀ pg : Nat, pg < 3 → ∃ r, ([(.ref b22), (.ref b52), (.ref b82)] : List Value).getD pg .null = .ref r ∧ ([(.ref b22), (.ref b29), (.ref b52), (.ref b59), (.ref b82)] : List Value).getD (2 * pg) .null = .ref r ∧ own_Len Z h97 r .long (own_lenH 3 lw pg) := by
      intro pg hp
      obtain rfl | rfl | rfl := own_lt3 hp
      · exact ⟨b22, rfl, rfl, own_Len.of (Arv.arh V97_3)⟩
      · exact ⟨b52, rfl, rfl, own_Len.of (Arv.arh V97_5)⟩
      · exact ⟨b82, rfl, rfl, own_Len.of (Arv.arh V97_7)⟩
    have H2 : ∀ pg : Nat, pg < 3 → (pg + 1 < 3 ∨ (32764 : Int32) < lw) → ∃ r, ([(.ref b29), (.ref b59), (.ref b88)] : List Value).getD pg .null = .ref r ∧ ([(.ref b22), (.ref b29), (.ref b52), (.ref b59), (.ref b82)] : List Value).getD (2 * pg + 1) .null = .ref r ∧ own_Len Z h97 r .long (own_lenT 3 lw pg) := by
      intro pg hp hq
      obtain rfl | rfl | rfl := own_lt3 hp
      · exact ⟨b29, rfl, rfl, own_Len.of (Arv.arh V97_4)⟩
      · exact ⟨b59, rfl, rfl, own_Len.of (Arv.arh V97_6)⟩
      · exact absurd hq (fun q => q.elim (by decide) ht)
    exact ⟨rfl, N97, K97, b10, _, _, b12, _, _, b16, _, _, _, F97_0, F97_1, F97_2, V97_0, V97_1, V_b16_97, by rw [if_neg ht]; decide, H1, H2⟩
theorem own_ef_rmI_4_1 (m : MethodId) (y0 : Addr) (y1 : Int64) : entryFrame m #[(.ref y0), (.long y1)] 7 = mkF m 0 #[.val (.ref y0), .val (.long y1), .second, .unset, .unset, .unset, .unset] [] := by first | (simp [entryFrame, mkF, argsToLocals, Value.category]; done) | rfl
set_option maxRecDepth 65536 in
set_option maxHeartbeats 40000000 in
theorem rmI_4_1 (l : Launch) (Z : State) (a0 : Array Value) (hw : ∀ d ∈ tables_1, d.before a0 Z = true) (ws : List Jvm.Cond) (a : Addr) (q : Int64) (lw : Int32) (h0 : Heap) (n0 : Nat) (Z0 : n0 ≤ h0.size) (E_a : Exa Z h0 a "com/example/elderflower/elderflower/PagedWords") (g_a : n0 ≤ a) (F_size : Fld Z h0 a "com/example/elderflower/elderflower/PagedWords" "size" "J" (.long (0 : Int64))) (F_heads : Fld Z h0 a "com/example/elderflower/elderflower/PagedWords" "heads" "[[J" .null) (F_tails : Fld Z h0 a "com/example/elderflower/elderflower/PagedWords" "tails" "[[J" .null) (F_arrays : Fld Z h0 a "com/example/elderflower/elderflower/PagedWords" "arrays" "[[J" .null) (S_PAGE_SHIFT : Sta Z h0 "com/example/elderflower/elderflower/PagedWords" "PAGE_SHIFT" "I" (.int (15 : Int32))) (hpg : ((((q + (32768 : Int64)) - (1 : Int64)).toUInt64 >>> ((15 : Int32) &&& 0x3f).toInt64.toUInt64).toInt64).toInt32 = Int32.ofNat 4) (hlw : (q - Int64.ofNat ((4 - 1) * 32768)).toInt32 = lw) (hlb : own_LW lw) (ht : (32764 : Int32) < lw) :
    MetFree l (⟨"com/example/elderflower/elderflower/PagedWords", "<init>", "(J)V"⟩ : MethodName) (head1 (Jvm.Cond.code (⟨"com/example/elderflower/elderflower/PagedWords", "<init>", "(J)V"⟩ : MethodName) prog_35_method_1_code 7 none :: ws) ({ frames := 1, cells := 11, slots := 131088, locals := 15 } : Room)) (fun ar_ U => ar_ = #[(.ref a), (.long q)] ∧ Z.Warmed39 U.vm ∧ U.heap = h0) (fun _ _ _ _ _ => True) (fun _ U o U' => ∃ v L, o = .returned v ∧ QI Z a 4 lw h0 n0 v U'.heap L ∧ FrameEnd U o U' L ({ frames := 1, cells := 11, slots := 131088, locals := 15 } : Room).cells ({ frames := 1, cells := 11, slots := 131088, locals := 15 } : Room).slots) := by
  refine MetFree.of_bodySF (plainFor_of_name own_pn0) hisR ?_
  intro p e s m args below meth c s₁ Bd hml0 hP hK
  obtain ⟨rfl, hZ, hh⟩ := hP
  have hx := Bd.exec
  have hby := Bd.bytes
  have hml : c.maxLocals = 7 := hml0
  have hown : s.vm.findClass "com/example/elderflower/elderflower/PagedWords" = some m.cls := findClass_of_methodNamed Bd.named
  have hnm := (name_of_methodNamed Bd.named Bd.method).1
  have X0 : Stand p l e ({ frames := 1, cells := 11, slots := 131088, locals := 15 } : Room) s m #[(.ref a), (.long q)] below meth c s₁ [] 0 0 := Stand.of_body Bd
  have e0 : s₁.heap = h0 := by rw [← hh, Bd.state]; rfl
  have N0 := Fr.nil n0
  have pre0 : ∀ tt_, Steps p.tables e below (s₁.setTop (mkF m 0 #[.val (.ref a), .val (.long q), .second, .unset, .unset, .unset, .unset] [])) tt_ → Steps p.tables e below (s₁.setTop (entryFrame m #[(.ref a), (.long q)] 7)) tt_ := fun tt_ kk_ => castTop (own_ef_rmI_4_1 m a q) kk_
  obtain ⟨T1, X1, e1, st1⟩ := initO X0 hx hZ hown (hw _ (List.mem_of_getElem? (i := 8) rfl)) (hw _ (List.mem_of_getElem? (i := 9) rfl)) (hw _ (List.mem_of_getElem? (i := 10) rfl)) e0 (g := (mkF m 1 #[.val (.ref a), .val (.long q), .second, .unset, .unset, .unset, .unset] [(.ref a)])) rfl (by rw [hml]; rfl) rfl (hb hby own_d_prog_35_method_1_code_1) (by decide) (W := 0) (by show 2 * 0 + _ ≤ _; exact Nat.le_of_eq rfl) (by decide)
  obtain ⟨T2, X2, e2, st2⟩ := getS2 X1 hx hZ hown (host := "") (Or.inl (hw _ (List.mem_of_getElem? (i := 12) rfl))) Via.refl e1 S_PAGE_SHIFT (g := (mkF m 11 #[.val (.ref a), .val (.long q), .second, .unset, .unset, .unset, .unset] [(.long ((q + (32768 : Int64)) - (1 : Int64)))])) rfl (hb hby own_d_prog_35_method_1_code_11)
  have hpg' : (((((q + (32768 : Int64)) - (1 : Int64)).toUInt64 >>> ((15 : Int32) &&& 0x3f).toInt64.toUInt64).toInt64).toInt32) = (4 : Int32) := hpg
  have pre3 : ∀ tt_, Steps p.tables e below (T2.setTop (mkF m 16 #[.val (.ref a), .val (.long q), .second, .unset, .unset, .unset, .unset] [(.int (((((q + (32768 : Int64)) - (1 : Int64)).toUInt64 >>> ((15 : Int32) &&& 0x3f).toInt64.toUInt64).toInt64).toInt32))])) tt_ → Steps p.tables e below (s₁.setTop (entryFrame m #[(.ref a), (.long q)] 7)) tt_ := fun tt_ kk_ => pre0 tt_ (by
    show Steps p.tables e below (s₁.setTop (mkF m 0 #[.val (.ref a), .val (.long q), .second, .unset, .unset, .unset, .unset] [])) _
    refine XS.aloadN X0.here hx rfl (hb hby own_d_prog_35_method_1_code_0) rfl rfl ?_
    refine st1 _ ?_
    refine XS.lloadN X1.here hx rfl (hb hby own_d_prog_35_method_1_code_4) rfl ?_
    refine X1.ldc2Long hx hown (mvT hZ (hw _ (List.mem_of_getElem? (i := 11) rfl))) (g := (mkF m 5 #[.val (.ref a), .val (.long q), .second, .unset, .unset, .unset, .unset] [(.long q)])) rfl (hb hby own_d_prog_35_method_1_code_5) _ ?_
    refine XS.ladd X1.here hx rfl (hb hby own_d_prog_35_method_1_code_8) rfl ?_
    refine XS.lconst X1.here hx rfl (hb hby own_d_prog_35_method_1_code_9) ?_
    show Steps p.tables e below (T1.setTop (mkF m 10 #[.val (.ref a), .val (.long q), .second, .unset, .unset, .unset, .unset] [(.long (1 : Int64)), (.long (q + (32768 : Int64)))])) _
    refine XS.lsub X1.here hx rfl (hb hby own_d_prog_35_method_1_code_10) rfl ?_
    refine st2 _ ?_
    refine XS.lushr X2.here hx rfl (hb hby own_d_prog_35_method_1_code_14) rfl ?_
    refine XS.l2i X2.here hx rfl (hb hby own_d_prog_35_method_1_code_15) rfl ?_
    exact kk_)
  rw [hpg'] at pre3
  have fold4 : ((4 : Int32) - (1 : Int32)) = (3 : Int32) := by decide +kernel
  have fold5 : ((3 : Int32).toInt64) = (3 : Int64) := by decide +kernel
  obtain ⟨T6, X6, e6, st6⟩ := getS2 X2 hx hZ hown (host := "") (Or.inl (hw _ (List.mem_of_getElem? (i := 12) rfl))) Via.refl e2 S_PAGE_SHIFT (g := (mkF m 22 #[.val (.ref a), .val (.long q), .second, .val (.int (4 : Int32)), .unset, .unset, .unset] [(.long (3 : Int64)), (.long q)])) rfl (hb hby own_d_prog_35_method_1_code_22)
  have fold7 : ((3 : Int64) <<< ((15 : Int32) &&& 0x3f).toInt64) = (98304 : Int64) := by decide +kernel
  have hlw' : ((q - (98304 : Int64)).toInt32) = lw := by rw [← hlw]; rfl
  have pre8 : ∀ tt_, Steps p.tables e below (T6.setTop (mkF m 28 #[.val (.ref a), .val (.long q), .second, .val (.int (4 : Int32)), .unset, .unset, .unset] [(.int ((q - (98304 : Int64)).toInt32))])) tt_ → Steps p.tables e below (s₁.setTop (entryFrame m #[(.ref a), (.long q)] 7)) tt_ := fun tt_ kk_ => pre3 tt_ (by
    show Steps p.tables e below (T2.setTop (mkF m 16 #[.val (.ref a), .val (.long q), .second, .unset, .unset, .unset, .unset] [(.int (4 : Int32))])) _
    refine XS.istoreN X2.here hx rfl (hb hby own_d_prog_35_method_1_code_16) rfl (l' := #[.val (.ref a), .val (.long q), .second, .val (.int (4 : Int32)), .unset, .unset, .unset]) rfl ?_
    refine XS.lloadN X2.here hx rfl (hb hby own_d_prog_35_method_1_code_17) rfl ?_
    refine XS.iloadN X2.here hx rfl (hb hby own_d_prog_35_method_1_code_18) rfl ?_
    show Steps p.tables e below (T2.setTop (mkF m 19 #[.val (.ref a), .val (.long q), .second, .val (.int (4 : Int32)), .unset, .unset, .unset] [(.int (4 : Int32)), (.long q)])) _
    refine XS.iconst X2.here hx rfl (hb hby own_d_prog_35_method_1_code_19) ?_
    refine XS.isub X2.here hx rfl (hb hby own_d_prog_35_method_1_code_20) rfl ?_
    show Steps p.tables e below (T2.setTop (mkF m 21 #[.val (.ref a), .val (.long q), .second, .val (.int (4 : Int32)), .unset, .unset, .unset] [(.int ((4 : Int32) - (1 : Int32))), (.long q)])) _
    rw [fold4]
    show Steps p.tables e below (T2.setTop (mkF m 21 #[.val (.ref a), .val (.long q), .second, .val (.int (4 : Int32)), .unset, .unset, .unset] [(.int (3 : Int32)), (.long q)])) _
    refine XS.i2l X2.here hx rfl (hb hby own_d_prog_35_method_1_code_21) rfl ?_
    show Steps p.tables e below (T2.setTop (mkF m 22 #[.val (.ref a), .val (.long q), .second, .val (.int (4 : Int32)), .unset, .unset, .unset] [(.long ((3 : Int32).toInt64)), (.long q)])) _
    rw [fold5]
    show Steps p.tables e below (T2.setTop (mkF m 22 #[.val (.ref a), .val (.long q), .second, .val (.int (4 : Int32)), .unset, .unset, .unset] [(.long (3 : Int64)), (.long q)])) _
    refine st6 _ ?_
    refine XS.lshl X6.here hx rfl (hb hby own_d_prog_35_method_1_code_25) rfl ?_
    show Steps p.tables e below (T6.setTop (mkF m 26 #[.val (.ref a), .val (.long q), .second, .val (.int (4 : Int32)), .unset, .unset, .unset] [(.long ((3 : Int64) <<< ((15 : Int32) &&& 0x3f).toInt64)), (.long q)])) _
    rw [fold7]
    show Steps p.tables e below (T6.setTop (mkF m 26 #[.val (.ref a), .val (.long q), .second, .val (.int (4 : Int32)), .unset, .unset, .unset] [(.long (98304 : Int64)), (.long q)])) _
    refine XS.lsub X6.here hx rfl (hb hby own_d_prog_35_method_1_code_26) rfl ?_
    refine XS.l2i X6.here hx rfl (hb hby own_d_prog_35_method_1_code_27) rfl ?_
    exact kk_)
  rw [hlw'] at pre8
  obtain ⟨T9, h9, X9, e9, W9, st9⟩ := putF X6 hx hZ hown (host := "") (Or.inl (hw _ (List.mem_of_getElem? (i := 14) rfl))) Via.refl e6 F_size E_a (Or.inr ⟨(hw _ (List.mem_of_getElem? (i := 15) rfl)), rfl, hnm⟩) (hw _ (List.mem_of_getElem? (i := 3) rfl)) (ty := .long) (by decide) rfl rfl (g := (mkF m 32 #[.val (.ref a), .val (.long q), .second, .val (.int (4 : Int32)), .val (.int lw), .unset, .unset] [(.long q), (.ref a)])) rfl rfl (hb hby own_d_prog_35_method_1_code_32)
  have F9_0 := F_size.same W9
  have F9_1 := F_heads.other W9 (Or.inr (slot_ne (Or.inr (hw _ (List.mem_of_getElem? (i := 19) rfl))) (Or.inr (hw _ (List.mem_of_getElem? (i := 15) rfl))) (by decide) (t := (.array (.array .long))) (t' := .long) (by decide) (by decide)))
  have F9_2 := F_tails.other W9 (Or.inr (slot_ne (Or.inr (hw _ (List.mem_of_getElem? (i := 21) rfl))) (Or.inr (hw _ (List.mem_of_getElem? (i := 15) rfl))) (by decide) (t := (.array (.array .long))) (t' := .long) (by decide) (by decide)))
  have F9_3 := F_arrays.other W9 (Or.inr (slot_ne (Or.inr (hw _ (List.mem_of_getElem? (i := 23) rfl))) (Or.inr (hw _ (List.mem_of_getElem? (i := 15) rfl))) (by decide) (t := (.array (.array .long))) (t' := .long) (by decide) (by decide)))
  have X9_0 := E_a.wr W9
  have S9_0 := S_PAGE_SHIFT.wr W9
  have z9 : n0 ≤ h9.size := by rw [W9.size]; exact Z0
  have K9 : Keep h0 h9 [a] := (Keep.refl h0 [a]).wr W9 (Or.inl (by simp))
  have N9 := Fr.snoc X9 N0 g_a
  obtain ⟨T10, h10, k10, X10, e10, E10, A10, O10, st10⟩ := own_newRA X9 hx hZ hown (hw _ (List.mem_of_getElem? (i := 16) rfl)) (hw _ (List.mem_of_getElem? (i := 17) rfl)) (by decide +kernel) e9 (g := (mkF m 37 #[.val (.ref a), .val (.long q), .second, .val (.int (4 : Int32)), .val (.int lw), .unset, .unset] [(.int (4 : Int32)), (.ref a)])) rfl (hb hby own_d_prog_35_method_1_code_37) rfl (by decide) (cap := 4) (by decide) (by decide) (by decide) (by decide)
  obtain ⟨b10, g10⟩ : ∃ z, z = h9.size := ⟨_, rfl⟩
  rw [← g10] at A10 st10
  have g_b10 : n0 ≤ b10 := Nat.le_trans z9 (Nat.le_of_eq g10.symm)
  have sz_b10 : h0.size ≤ b10 := Nat.le_trans K9.1 (Nat.le_of_eq g10.symm)
  have F10_0 := F9_0.ext E10
  have F10_1 := F9_1.ext E10
  have F10_2 := F9_2.ext E10
  have F10_3 := F9_3.ext E10
  have X10_0 := X9_0.ext E10
  have S10_0 := S9_0.ext E10
  have z10 : n0 ≤ h10.size := Nat.le_trans z9 E10.1
  have K10 : Keep h0 h10 [a] := K9.ext E10
  have V_b10 : Arv Z h10 b10 k10 (.array .long) (4 : Int32) [.null, .null, .null, .null] .null := (Arv.new A10 (by decide)).pad (pad_rep [] .null 4)
  obtain ⟨T11, h11, X11, e11, W11, st11⟩ := putF X10 hx hZ hown (host := "") (Or.inl (hw _ (List.mem_of_getElem? (i := 18) rfl))) Via.refl e10 F10_1 X10_0 (Or.inr ⟨(hw _ (List.mem_of_getElem? (i := 19) rfl)), rfl, hnm⟩) (hw _ (List.mem_of_getElem? (i := 3) rfl)) (ty := (.array (.array .long))) (by decide) rfl rfl (g := (mkF m 40 #[.val (.ref a), .val (.long q), .second, .val (.int (4 : Int32)), .val (.int lw), .unset, .unset] [(.ref b10), (.ref a)])) rfl rfl (hb hby own_d_prog_35_method_1_code_40)
  have F11_0 := F10_0.other W11 (Or.inr (slot_ne (Or.inr (hw _ (List.mem_of_getElem? (i := 15) rfl))) (Or.inr (hw _ (List.mem_of_getElem? (i := 19) rfl))) (by decide) (t := .long) (t' := (.array (.array .long))) (by decide) (by decide)))
  have F11_1 := F10_1.same W11
  have F11_2 := F10_2.other W11 (Or.inr (slot_ne (Or.inr (hw _ (List.mem_of_getElem? (i := 21) rfl))) (Or.inr (hw _ (List.mem_of_getElem? (i := 19) rfl))) (by decide) (t := (.array (.array .long))) (t' := (.array (.array .long))) (by decide) (by decide)))
  have F11_3 := F10_3.other W11 (Or.inr (slot_ne (Or.inr (hw _ (List.mem_of_getElem? (i := 23) rfl))) (Or.inr (hw _ (List.mem_of_getElem? (i := 19) rfl))) (by decide) (t := (.array (.array .long))) (t' := (.array (.array .long))) (by decide) (by decide)))
  have X11_0 := X10_0.wr W11
  have S11_0 := S10_0.wr W11
  have ne_a_b10 : a ≠ b10 := Nat.ne_of_lt (Nat.lt_of_lt_of_le (X9_0).lt (Nat.le_of_eq g10.symm))
  have V11_0 := V_b10.other W11 (Ne.symm ne_a_b10)
  have z11 : n0 ≤ h11.size := by rw [W11.size]; exact z10
  have K11 : Keep h0 h11 [a] := K10.wr W11 (Or.inl (by simp))
  have N11 := Fr.snoc X11 N9 g_a
  obtain ⟨T12, h12, k12, X12, e12, E12, A12, O12, st12⟩ := own_newRA X11 hx hZ hown (hw _ (List.mem_of_getElem? (i := 16) rfl)) (hw _ (List.mem_of_getElem? (i := 17) rfl)) (by decide +kernel) e11 (g := (mkF m 45 #[.val (.ref a), .val (.long q), .second, .val (.int (4 : Int32)), .val (.int lw), .unset, .unset] [(.int (4 : Int32)), (.ref a)])) rfl (hb hby own_d_prog_35_method_1_code_45) rfl (by decide) (cap := 4) (by decide) (by decide) (by decide) (by decide)
  obtain ⟨b12, g12⟩ : ∃ z, z = h11.size := ⟨_, rfl⟩
  rw [← g12] at A12 st12
  have g_b12 : n0 ≤ b12 := Nat.le_trans z11 (Nat.le_of_eq g12.symm)
  have sz_b12 : h0.size ≤ b12 := Nat.le_trans K11.1 (Nat.le_of_eq g12.symm)
  have F12_0 := F11_0.ext E12
  have F12_1 := F11_1.ext E12
  have F12_2 := F11_2.ext E12
  have F12_3 := F11_3.ext E12
  have X12_0 := X11_0.ext E12
  have S12_0 := S11_0.ext E12
  have V12_0 := V11_0.ext E12
  have z12 : n0 ≤ h12.size := Nat.le_trans z11 E12.1
  have K12 : Keep h0 h12 [a] := K11.ext E12
  have V_b12 : Arv Z h12 b12 k12 (.array .long) (4 : Int32) [.null, .null, .null, .null] .null := (Arv.new A12 (by decide)).pad (pad_rep [] .null 4)
  obtain ⟨T13, h13, X13, e13, W13, st13⟩ := putF X12 hx hZ hown (host := "") (Or.inl (hw _ (List.mem_of_getElem? (i := 20) rfl))) Via.refl e12 F12_2 X12_0 (Or.inr ⟨(hw _ (List.mem_of_getElem? (i := 21) rfl)), rfl, hnm⟩) (hw _ (List.mem_of_getElem? (i := 3) rfl)) (ty := (.array (.array .long))) (by decide) rfl rfl (g := (mkF m 48 #[.val (.ref a), .val (.long q), .second, .val (.int (4 : Int32)), .val (.int lw), .unset, .unset] [(.ref b12), (.ref a)])) rfl rfl (hb hby own_d_prog_35_method_1_code_48)
  have F13_0 := F12_0.other W13 (Or.inr (slot_ne (Or.inr (hw _ (List.mem_of_getElem? (i := 15) rfl))) (Or.inr (hw _ (List.mem_of_getElem? (i := 21) rfl))) (by decide) (t := .long) (t' := (.array (.array .long))) (by decide) (by decide)))
  have F13_1 := F12_1.other W13 (Or.inr (slot_ne (Or.inr (hw _ (List.mem_of_getElem? (i := 19) rfl))) (Or.inr (hw _ (List.mem_of_getElem? (i := 21) rfl))) (by decide) (t := (.array (.array .long))) (t' := (.array (.array .long))) (by decide) (by decide)))
  have F13_2 := F12_2.same W13
  have F13_3 := F12_3.other W13 (Or.inr (slot_ne (Or.inr (hw _ (List.mem_of_getElem? (i := 23) rfl))) (Or.inr (hw _ (List.mem_of_getElem? (i := 21) rfl))) (by decide) (t := (.array (.array .long))) (t' := (.array (.array .long))) (by decide) (by decide)))
  have X13_0 := X12_0.wr W13
  have S13_0 := S12_0.wr W13
  have V13_0 := V12_0.other W13 (Ne.symm ne_a_b10)
  have ne_a_b12 : a ≠ b12 := Nat.ne_of_lt (Nat.lt_of_lt_of_le (X11_0).lt (Nat.le_of_eq g12.symm))
  have V13_1 := V_b12.other W13 (Ne.symm ne_a_b12)
  have z13 : n0 ≤ h13.size := by rw [W13.size]; exact z12
  have K13 : Keep h0 h13 [a] := K12.wr W13 (Or.inl (by simp))
  have N13 := Fr.snoc X13 N11 g_a
  have fold14 : ((2 : Int32) * (4 : Int32)) = (8 : Int32) := by decide +kernel
  have fold15 : ((8 : Int32) - (0 : Int32)) = (8 : Int32) := by decide +kernel
  obtain ⟨T16, h16, k16, X16, e16, E16, A16, O16, st16⟩ := own_newRA X13 hx hZ hown (hw _ (List.mem_of_getElem? (i := 16) rfl)) (hw _ (List.mem_of_getElem? (i := 17) rfl)) (by decide +kernel) e13 (g := (mkF m 69 #[.val (.ref a), .val (.long q), .second, .val (.int (4 : Int32)), .val (.int lw), .unset, .unset] [(.int (8 : Int32)), (.ref a)])) rfl (hb hby own_d_prog_35_method_1_code_69) rfl (by decide) (cap := 8) (by decide) (by decide) (by decide) (by decide)
  obtain ⟨b16, g16⟩ : ∃ z, z = h13.size := ⟨_, rfl⟩
  rw [← g16] at A16 st16
  have g_b16 : n0 ≤ b16 := Nat.le_trans z13 (Nat.le_of_eq g16.symm)
  have sz_b16 : h0.size ≤ b16 := Nat.le_trans K13.1 (Nat.le_of_eq g16.symm)
  have F16_0 := F13_0.ext E16
  have F16_1 := F13_1.ext E16
  have F16_2 := F13_2.ext E16
  have F16_3 := F13_3.ext E16
  have X16_0 := X13_0.ext E16
  have S16_0 := S13_0.ext E16
  have V16_0 := V13_0.ext E16
  have V16_1 := V13_1.ext E16
  have z16 : n0 ≤ h16.size := Nat.le_trans z13 E16.1
  have K16 : Keep h0 h16 [a] := K13.ext E16
  have V_b16 : Arv Z h16 b16 k16 (.array .long) (8 : Int32) [.null, .null, .null, .null, .null, .null, .null, .null] .null := (Arv.new A16 (by decide)).pad (pad_rep [] .null 8)
  obtain ⟨T17, h17, X17, e17, W17, st17⟩ := putF X16 hx hZ hown (host := "") (Or.inl (hw _ (List.mem_of_getElem? (i := 22) rfl))) Via.refl e16 F16_3 X16_0 (Or.inr ⟨(hw _ (List.mem_of_getElem? (i := 23) rfl)), rfl, hnm⟩) (hw _ (List.mem_of_getElem? (i := 3) rfl)) (ty := (.array (.array .long))) (by decide) rfl rfl (g := (mkF m 72 #[.val (.ref a), .val (.long q), .second, .val (.int (4 : Int32)), .val (.int lw), .unset, .unset] [(.ref b16), (.ref a)])) rfl rfl (hb hby own_d_prog_35_method_1_code_72)
  have F17_0 := F16_0.other W17 (Or.inr (slot_ne (Or.inr (hw _ (List.mem_of_getElem? (i := 15) rfl))) (Or.inr (hw _ (List.mem_of_getElem? (i := 23) rfl))) (by decide) (t := .long) (t' := (.array (.array .long))) (by decide) (by decide)))
  have F17_1 := F16_1.other W17 (Or.inr (slot_ne (Or.inr (hw _ (List.mem_of_getElem? (i := 19) rfl))) (Or.inr (hw _ (List.mem_of_getElem? (i := 23) rfl))) (by decide) (t := (.array (.array .long))) (t' := (.array (.array .long))) (by decide) (by decide)))
  have F17_2 := F16_2.other W17 (Or.inr (slot_ne (Or.inr (hw _ (List.mem_of_getElem? (i := 21) rfl))) (Or.inr (hw _ (List.mem_of_getElem? (i := 23) rfl))) (by decide) (t := (.array (.array .long))) (t' := (.array (.array .long))) (by decide) (by decide)))
  have F17_3 := F16_3.same W17
  have X17_0 := X16_0.wr W17
  have S17_0 := S16_0.wr W17
  have V17_0 := V16_0.other W17 (Ne.symm ne_a_b10)
  have V17_1 := V16_1.other W17 (Ne.symm ne_a_b12)
  have ne_a_b16 : a ≠ b16 := Nat.ne_of_lt (Nat.lt_of_lt_of_le (X13_0).lt (Nat.le_of_eq g16.symm))
  have V17_2 := V_b16.other W17 (Ne.symm ne_a_b16)
  have z17 : n0 ≤ h17.size := by rw [W17.size]; exact z16
  have K17 : Keep h0 h17 [a] := K16.wr W17 (Or.inl (by simp))
  have N17 := Fr.snoc X17 N13 g_a
  have pre18 : ∀ tt_, Steps p.tables e below (T17.setTop (mkF m 78 #[.val (.ref a), .val (.long q), .second, .val (.int (4 : Int32)), .val (.int lw), .val (.int (0 : Int32)), .unset] [])) tt_ → Steps p.tables e below (s₁.setTop (entryFrame m #[(.ref a), (.long q)] 7)) tt_ := fun tt_ kk_ => pre8 tt_ (by
    show Steps p.tables e below (T6.setTop (mkF m 28 #[.val (.ref a), .val (.long q), .second, .val (.int (4 : Int32)), .unset, .unset, .unset] [(.int lw)])) _
    refine XS.istore X6.here hx rfl (hb hby own_d_prog_35_method_1_code_28) rfl (l' := #[.val (.ref a), .val (.long q), .second, .val (.int (4 : Int32)), .val (.int lw), .unset, .unset]) rfl ?_
    refine XS.aloadN X6.here hx rfl (hb hby own_d_prog_35_method_1_code_30) rfl rfl ?_
    refine XS.lloadN X6.here hx rfl (hb hby own_d_prog_35_method_1_code_31) rfl ?_
    refine st9 _ ?_
    refine XS.aloadN X9.here hx rfl (hb hby own_d_prog_35_method_1_code_35) rfl rfl ?_
    refine XS.iloadN X9.here hx rfl (hb hby own_d_prog_35_method_1_code_36) rfl ?_
    refine st10 _ ?_
    refine st11 _ ?_
    refine XS.aloadN X11.here hx rfl (hb hby own_d_prog_35_method_1_code_43) rfl rfl ?_
    show Steps p.tables e below (T11.setTop (mkF m 44 #[.val (.ref a), .val (.long q), .second, .val (.int (4 : Int32)), .val (.int lw), .unset, .unset] [(.ref a)])) _
    refine XS.iloadN X11.here hx rfl (hb hby own_d_prog_35_method_1_code_44) rfl ?_
    refine st12 _ ?_
    refine st13 _ ?_
    refine XS.aloadN X13.here hx rfl (hb hby own_d_prog_35_method_1_code_51) rfl rfl ?_
    refine XS.iconst X13.here hx rfl (hb hby own_d_prog_35_method_1_code_52) ?_
    refine XS.iloadN X13.here hx rfl (hb hby own_d_prog_35_method_1_code_53) rfl ?_
    refine XS.imul X13.here hx rfl (hb hby own_d_prog_35_method_1_code_54) rfl ?_
    show Steps p.tables e below (T13.setTop (mkF m 55 #[.val (.ref a), .val (.long q), .second, .val (.int (4 : Int32)), .val (.int lw), .unset, .unset] [(.int ((2 : Int32) * (4 : Int32))), (.ref a)])) _
    rw [fold14]
    show Steps p.tables e below (T13.setTop (mkF m 55 #[.val (.ref a), .val (.long q), .second, .val (.int (4 : Int32)), .val (.int lw), .unset, .unset] [(.int (8 : Int32)), (.ref a)])) _
    refine XS.iload X13.here hx rfl (hb hby own_d_prog_35_method_1_code_55) rfl ?_
    show Steps p.tables e below (T13.setTop (mkF m 57 #[.val (.ref a), .val (.long q), .second, .val (.int (4 : Int32)), .val (.int lw), .unset, .unset] [(.int lw), (.int (8 : Int32)), (.ref a)])) _
    refine XS.sipush X13.here hx rfl (hb hby own_d_prog_35_method_1_code_57) ?_
    refine XS.icmpNo X13.here hx rfl (hb hby own_d_prog_35_method_1_code_60) rfl (tlt (ht : (32764 : Int32) < lw)).2.2.2 ?_
    refine XS.iconst X13.here hx rfl (hb hby own_d_prog_35_method_1_code_63) ?_
    refine XS.goto X13.here hx rfl (pc0 := 64) (pc' := 68) rfl (hb hby own_d_prog_35_method_1_code_64) (by decide) (by decide) ?_
    refine XS.isub X13.here hx rfl (hb hby own_d_prog_35_method_1_code_68) rfl ?_
    show Steps p.tables e below (T13.setTop (mkF m 69 #[.val (.ref a), .val (.long q), .second, .val (.int (4 : Int32)), .val (.int lw), .unset, .unset] [(.int ((8 : Int32) - (0 : Int32))), (.ref a)])) _
    rw [fold15]
    show Steps p.tables e below (T13.setTop (mkF m 69 #[.val (.ref a), .val (.long q), .second, .val (.int (4 : Int32)), .val (.int lw), .unset, .unset] [(.int (8 : Int32)), (.ref a)])) _
    refine st16 _ ?_
    refine st17 _ ?_
    refine XS.iconst X17.here hx rfl (hb hby own_d_prog_35_method_1_code_75) ?_
    show Steps p.tables e below (T17.setTop (mkF m 76 #[.val (.ref a), .val (.long q), .second, .val (.int (4 : Int32)), .val (.int lw), .unset, .unset] [(.int (0 : Int32))])) _
    refine XS.istore X17.here hx rfl (hb hby own_d_prog_35_method_1_code_76) rfl (l' := #[.val (.ref a), .val (.long q), .second, .val (.int (4 : Int32)), .val (.int lw), .val (.int (0 : Int32)), .unset]) rfl ?_
    exact kk_)
  have fold19 : ((4 : Int32) - (1 : Int32)) = (3 : Int32) := by decide +kernel
  obtain ⟨T20, X20, e20, st20⟩ := getF X17 hx hZ hown (host := "") (Or.inl (hw _ (List.mem_of_getElem? (i := 18) rfl))) Via.refl e17 F17_1 (g := (mkF m 102 #[.val (.ref a), .val (.long q), .second, .val (.int (4 : Int32)), .val (.int lw), .val (.int (0 : Int32)), .val (.int (32768 : Int32))] [(.ref a)])) rfl rfl (hb hby own_d_prog_35_method_1_code_102)
  obtain ⟨_, _, ⟨T21, L21, k21, n21⟩, -, X21, ⟨Lc21, hQ21, l21, y21, z21⟩, st21⟩ := Jvm.LawKit.callS X20 hx (y := (⟨"java/lang/Math", "min", "(II)I"⟩ : MethodName)) hown (mvT hZ (hw _ (List.mem_of_getElem? (i := 24) rfl))) (mvT hZ (hw _ (List.mem_of_getElem? (i := 25) rfl))) (mvT hZ (hw _ (List.mem_of_getElem? (i := 26) rfl))) (mvT hZ (hw _ (List.mem_of_getElem? (i := 27) rfl))) (by decide) (backOf (W := 2) (rmMin l Z a0 hw [] (32768 : Int32) (32764 : Int32) (32764 : Int32) h17 n0 z17 (by decide)) hZ (hw _ (List.mem_of_getElem? (i := 27) rfl)) (hw _ (List.mem_of_getElem? (i := 26) rfl)) (by decide) (by decide)) (g := (mkF m 112 #[.val (.ref a), .val (.long q), .second, .val (.int (4 : Int32)), .val (.int lw), .val (.int (0 : Int32)), .val (.int (32768 : Int32))] [(.int (32764 : Int32)), (.int (32768 : Int32)), (.int (0 : Int32)), (.ref b10)])) rfl (by rw [hml]; rfl) (argsL := [(.int (32768 : Int32)), (.int (32764 : Int32))]) (rest := [(.int (0 : Int32)), (.ref b10)]) (lenOf own_pd0 rfl) rfl (by show 2 * 0 + _ ≤ _; exact Nat.le_of_eq rfl) (hb hby own_d_prog_35_method_1_code_112) (fun _ _ => ⟨rfl, e20, (by decide : 3 + 0 ≤ _), (by decide : 16 + 0 ≤ _)⟩)
  dsimp only [Pt.U, Pt.locs, Pt.cells, Pt.slots] at X21 l21 y21 z21 st21 hQ21
  replace l21 := l21.symm; subst l21 y21 z21
  obtain ⟨rfl, N21q, e21⟩ := hQ21
  have N21 := Fr.app N17 N21q
  obtain ⟨T22, h22, k22, X22, e22, E22, A22, Ea22, st22⟩ := newPE X21 hx hZ (hw _ (List.mem_of_getElem? (i := 28) rfl)) e21 (g := (mkF m 115 #[.val (.ref a), .val (.long q), .second, .val (.int (4 : Int32)), .val (.int lw), .val (.int (0 : Int32)), .val (.int (32768 : Int32))] [(.int (32764 : Int32)), (.int (0 : Int32)), (.ref b10)])) rfl (hb hby own_d_prog_35_method_1_code_115) rfl (by decide) (cap := 32764) (by decide) (by decide) (by decide) (by decide) (ad := "[J") (by decide +kernel)
  obtain ⟨b22, g22⟩ : ∃ z, z = h17.size := ⟨_, rfl⟩
  rw [← g22] at A22 st22 Ea22
  have g_b22 : n0 ≤ b22 := Nat.le_trans z17 (Nat.le_of_eq g22.symm)
  have sz_b22 : h0.size ≤ b22 := Nat.le_trans K17.1 (Nat.le_of_eq g22.symm)
  have F22_0 := F17_0.ext E22
  have F22_1 := F17_1.ext E22
  have F22_2 := F17_2.ext E22
  have F22_3 := F17_3.ext E22
  have X22_0 := X17_0.ext E22
  have S22_0 := S17_0.ext E22
  have V22_0 := V17_0.ext E22
  have V22_1 := V17_1.ext E22
  have V22_2 := V17_2.ext E22
  have z22 : n0 ≤ h22.size := Nat.le_trans z17 E22.1
  have K22 : Keep h0 h22 [a] := K17.ext E22
  have V_b22 : Arv Z h22 b22 k22 .long (32764 : Int32) [] (.long (0 : Int64)) := (Arv.new A22 (by decide)).pad (pad_rep [] (.long (0 : Int64)) 0)
  obtain ⟨cl23, Ar23, q23, S23, M23, H23, G23⟩ := id V22_0
  have hin23 : ¬ ((0 : Int32) < 0 ∨ cl23.slots.size ≤ ((0 : Int32)).toNatClampNeg) := inb_of S23 ⟨by decide, by decide⟩
  obtain ⟨T24, h24, X24, e24, W24, st24⟩ := stR X22 hx hZ e22 Ar23 (j := (0 : Int32)) hin23 rfl (own_stoA Ar23 q23 O10 (Ins.self Ea22)) (g := (mkF m 117 #[.val (.ref a), .val (.long q), .second, .val (.int (4 : Int32)), .val (.int lw), .val (.int (0 : Int32)), .val (.int (32768 : Int32))] [(.ref b22), (.int (0 : Int32)), (.ref b10)])) rfl rfl (hb hby own_d_prog_35_method_1_code_117)
  have V_b10_24 : Arv Z h24 b10 k10 (.array .long) (4 : Int32) [(.ref b22), .null, .null, .null] .null := Arv.set Ar23 q23 S23 M23 H23 G23 rfl W24 0 rfl (Nat.le_of_ble_eq_true rfl)
  have F24_0 := F22_0.other W24 (Or.inl ne_a_b10)
  have F24_1 := F22_1.other W24 (Or.inl ne_a_b10)
  have F24_2 := F22_2.other W24 (Or.inl ne_a_b10)
  have F24_3 := F22_3.other W24 (Or.inl ne_a_b10)
  have X24_0 := X22_0.wr W24
  have X24_1 := Ea22.wr W24
  have S24_0 := S22_0.wr W24
  have ne_b10_b12 : b10 ≠ b12 := Nat.ne_of_lt (Nat.lt_of_lt_of_le (V11_0).lt (Nat.le_of_eq g12.symm))
  have V24_1 := V22_1.other W24 (Ne.symm ne_b10_b12)
  have ne_b10_b16 : b10 ≠ b16 := Nat.ne_of_lt (Nat.lt_of_lt_of_le (V13_0).lt (Nat.le_of_eq g16.symm))
  have V24_2 := V22_2.other W24 (Ne.symm ne_b10_b16)
  have ne_b10_b22 : b10 ≠ b22 := Nat.ne_of_lt (Nat.lt_of_lt_of_le (V17_0).lt (Nat.le_of_eq g22.symm))
  have V24_3 := V_b22.other W24 (Ne.symm ne_b10_b22)
  have z24 : n0 ≤ h24.size := by rw [W24.size]; exact z22
  have K24 : Keep h0 h24 [a] := K22.wr W24 (Or.inr sz_b10)
  have N24 := Fr.snoc X24 N21 g_b10
  have pre25 : ∀ tt_, Steps p.tables e below (T24.setTop (mkF m 118 #[.val (.ref a), .val (.long q), .second, .val (.int (4 : Int32)), .val (.int lw), .val (.int (0 : Int32)), .val (.int (32768 : Int32))] [])) tt_ → Steps p.tables e below (s₁.setTop (entryFrame m #[(.ref a), (.long q)] 7)) tt_ := fun tt_ kk_ => pre18 tt_ (by
    show Steps p.tables e below (T17.setTop (mkF m 78 #[.val (.ref a), .val (.long q), .second, .val (.int (4 : Int32)), .val (.int lw), .val (.int (0 : Int32)), .unset] [])) _
    refine XS.iload X17.here hx rfl (hb hby own_d_prog_35_method_1_code_78) rfl ?_
    refine XS.iloadN X17.here hx rfl (hb hby own_d_prog_35_method_1_code_80) rfl ?_
    refine XS.icmpNo X17.here hx rfl (hb hby own_d_prog_35_method_1_code_81) rfl (tlt ((by decide) : (0 : Int32) < (4 : Int32))).2.1 ?_
    refine XS.iload X17.here hx rfl (hb hby own_d_prog_35_method_1_code_84) rfl ?_
    refine XS.iloadN X17.here hx rfl (hb hby own_d_prog_35_method_1_code_86) rfl ?_
    show Steps p.tables e below (T17.setTop (mkF m 87 #[.val (.ref a), .val (.long q), .second, .val (.int (4 : Int32)), .val (.int lw), .val (.int (0 : Int32)), .unset] [(.int (4 : Int32)), (.int (0 : Int32))])) _
    refine XS.iconst X17.here hx rfl (hb hby own_d_prog_35_method_1_code_87) ?_
    refine XS.isub X17.here hx rfl (hb hby own_d_prog_35_method_1_code_88) rfl ?_
    show Steps p.tables e below (T17.setTop (mkF m 89 #[.val (.ref a), .val (.long q), .second, .val (.int (4 : Int32)), .val (.int lw), .val (.int (0 : Int32)), .unset] [(.int ((4 : Int32) - (1 : Int32))), (.int (0 : Int32))])) _
    rw [fold19]
    show Steps p.tables e below (T17.setTop (mkF m 89 #[.val (.ref a), .val (.long q), .second, .val (.int (4 : Int32)), .val (.int lw), .val (.int (0 : Int32)), .unset] [(.int (3 : Int32)), (.int (0 : Int32))])) _
    refine XS.icmpNo X17.here hx rfl (hb hby own_d_prog_35_method_1_code_89) rfl (tlt ((by decide) : (0 : Int32) < (3 : Int32))).2.1 ?_
    refine X17.ldcInt hx hown (mvT hZ (hw _ (List.mem_of_getElem? (i := 52) rfl))) (g := (mkF m 92 #[.val (.ref a), .val (.long q), .second, .val (.int (4 : Int32)), .val (.int lw), .val (.int (0 : Int32)), .unset] [])) rfl (hb hby own_d_prog_35_method_1_code_92) _ ?_
    refine XS.goto X17.here hx rfl (pc0 := 94) (pc' := 99) rfl (hb hby own_d_prog_35_method_1_code_94) (by decide) (by decide) ?_
    refine XS.istore X17.here hx rfl (hb hby own_d_prog_35_method_1_code_99) rfl (l' := #[.val (.ref a), .val (.long q), .second, .val (.int (4 : Int32)), .val (.int lw), .val (.int (0 : Int32)), .val (.int (32768 : Int32))]) rfl ?_
    show Steps p.tables e below (T17.setTop (mkF m 101 #[.val (.ref a), .val (.long q), .second, .val (.int (4 : Int32)), .val (.int lw), .val (.int (0 : Int32)), .val (.int (32768 : Int32))] [])) _
    refine XS.aloadN X17.here hx rfl (hb hby own_d_prog_35_method_1_code_101) rfl rfl ?_
    refine st20 _ ?_
    refine XS.iload X20.here hx rfl (hb hby own_d_prog_35_method_1_code_105) rfl ?_
    refine XS.iload X20.here hx rfl (hb hby own_d_prog_35_method_1_code_107) rfl ?_
    refine XS.sipush X20.here hx rfl (hb hby own_d_prog_35_method_1_code_109) ?_
    show Steps p.tables e below (T20.setTop (mkF m 112 #[.val (.ref a), .val (.long q), .second, .val (.int (4 : Int32)), .val (.int lw), .val (.int (0 : Int32)), .val (.int (32768 : Int32))] [(.int (32764 : Int32)), (.int (32768 : Int32)), (.int (0 : Int32)), (.ref b10)])) _
    refine st21 _ ?_
    refine st22 _ ?_
    refine st24 _ ?_
    exact kk_)
  obtain ⟨T26, X26, e26, st26⟩ := getF X24 hx hZ hown (host := "") (Or.inl (hw _ (List.mem_of_getElem? (i := 20) rfl))) Via.refl e24 F24_2 (g := (mkF m 119 #[.val (.ref a), .val (.long q), .second, .val (.int (4 : Int32)), .val (.int lw), .val (.int (0 : Int32)), .val (.int (32768 : Int32))] [(.ref a)])) rfl rfl (hb hby own_d_prog_35_method_1_code_119)
  have fold27 : ((32768 : Int32) - (32764 : Int32)) = (4 : Int32) := by decide +kernel
  obtain ⟨_, _, ⟨T28, L28, k28, n28⟩, -, X28, ⟨Lc28, hQ28, l28, y28, z28⟩, st28⟩ := Jvm.LawKit.callS X26 hx (y := (⟨"java/lang/Math", "max", "(II)I"⟩ : MethodName)) hown (mvT hZ (hw _ (List.mem_of_getElem? (i := 30) rfl))) (mvT hZ (hw _ (List.mem_of_getElem? (i := 31) rfl))) (mvT hZ (hw _ (List.mem_of_getElem? (i := 26) rfl))) (mvT hZ (hw _ (List.mem_of_getElem? (i := 32) rfl))) (by decide) (backOf (W := 2) (rmMax l Z a0 hw [] (4 : Int32) (0 : Int32) (4 : Int32) h24 n0 z24 (by decide)) hZ (hw _ (List.mem_of_getElem? (i := 32) rfl)) (hw _ (List.mem_of_getElem? (i := 26) rfl)) (by decide) (by decide)) (g := (mkF m 131 #[.val (.ref a), .val (.long q), .second, .val (.int (4 : Int32)), .val (.int lw), .val (.int (0 : Int32)), .val (.int (32768 : Int32))] [(.int (0 : Int32)), (.int (4 : Int32)), (.int (0 : Int32)), (.ref b12)])) rfl (by rw [hml]; rfl) (argsL := [(.int (4 : Int32)), (.int (0 : Int32))]) (rest := [(.int (0 : Int32)), (.ref b12)]) (lenOf own_pd0 rfl) rfl (by show 2 * 0 + _ ≤ _; exact Nat.le_of_eq rfl) (hb hby own_d_prog_35_method_1_code_131) (fun _ _ => ⟨rfl, e26, (by decide : 4 + 0 ≤ _), (by decide : 32780 + 0 ≤ _)⟩)
  dsimp only [Pt.U, Pt.locs, Pt.cells, Pt.slots] at X28 l28 y28 z28 st28 hQ28
  replace l28 := l28.symm; subst l28 y28 z28
  obtain ⟨rfl, N28q, e28⟩ := hQ28
  have N28 := Fr.app N24 N28q
  obtain ⟨T29, h29, k29, X29, e29, E29, A29, Ea29, st29⟩ := newPE X28 hx hZ (hw _ (List.mem_of_getElem? (i := 28) rfl)) e28 (g := (mkF m 134 #[.val (.ref a), .val (.long q), .second, .val (.int (4 : Int32)), .val (.int lw), .val (.int (0 : Int32)), .val (.int (32768 : Int32))] [(.int (4 : Int32)), (.int (0 : Int32)), (.ref b12)])) rfl (hb hby own_d_prog_35_method_1_code_134) rfl (by decide) (cap := 4) (by decide) (by decide) (by decide) (by decide) (ad := "[J") (by decide +kernel)
  obtain ⟨b29, g29⟩ : ∃ z, z = h24.size := ⟨_, rfl⟩
  rw [← g29] at A29 st29 Ea29
  have g_b29 : n0 ≤ b29 := Nat.le_trans z24 (Nat.le_of_eq g29.symm)
  have sz_b29 : h0.size ≤ b29 := Nat.le_trans K24.1 (Nat.le_of_eq g29.symm)
  have F29_0 := F24_0.ext E29
  have F29_1 := F24_1.ext E29
  have F29_2 := F24_2.ext E29
  have F29_3 := F24_3.ext E29
  have X29_0 := X24_0.ext E29
  have X29_1 := X24_1.ext E29
  have S29_0 := S24_0.ext E29
  have V29_0 := V_b10_24.ext E29
  have V29_1 := V24_1.ext E29
  have V29_2 := V24_2.ext E29
  have V29_3 := V24_3.ext E29
  have z29 : n0 ≤ h29.size := Nat.le_trans z24 E29.1
  have K29 : Keep h0 h29 [a] := K24.ext E29
  have V_b29 : Arv Z h29 b29 k29 .long (4 : Int32) [] (.long (0 : Int64)) := (Arv.new A29 (by decide)).pad (pad_rep [] (.long (0 : Int64)) 0)
  obtain ⟨cl30, Ar30, q30, S30, M30, H30, G30⟩ := id V29_1
  have hin30 : ¬ ((0 : Int32) < 0 ∨ cl30.slots.size ≤ ((0 : Int32)).toNatClampNeg) := inb_of S30 ⟨by decide, by decide⟩
  obtain ⟨T31, h31, X31, e31, W31, st31⟩ := stR X29 hx hZ e29 Ar30 (j := (0 : Int32)) hin30 rfl (own_stoA Ar30 q30 O12 (Ins.self Ea29)) (g := (mkF m 136 #[.val (.ref a), .val (.long q), .second, .val (.int (4 : Int32)), .val (.int lw), .val (.int (0 : Int32)), .val (.int (32768 : Int32))] [(.ref b29), (.int (0 : Int32)), (.ref b12)])) rfl rfl (hb hby own_d_prog_35_method_1_code_136)
  have V_b12_31 : Arv Z h31 b12 k12 (.array .long) (4 : Int32) [(.ref b29), .null, .null, .null] .null := Arv.set Ar30 q30 S30 M30 H30 G30 rfl W31 0 rfl (Nat.le_of_ble_eq_true rfl)
  have F31_0 := F29_0.other W31 (Or.inl ne_a_b12)
  have F31_1 := F29_1.other W31 (Or.inl ne_a_b12)
  have F31_2 := F29_2.other W31 (Or.inl ne_a_b12)
  have F31_3 := F29_3.other W31 (Or.inl ne_a_b12)
  have X31_0 := X29_0.wr W31
  have X31_1 := X29_1.wr W31
  have X31_2 := Ea29.wr W31
  have S31_0 := S29_0.wr W31
  have V31_0 := V29_0.other W31 ne_b10_b12
  have ne_b12_b16 : b12 ≠ b16 := Nat.ne_of_lt (Nat.lt_of_lt_of_le (V13_1).lt (Nat.le_of_eq g16.symm))
  have V31_2 := V29_2.other W31 (Ne.symm ne_b12_b16)
  have ne_b12_b22 : b12 ≠ b22 := Nat.ne_of_lt (Nat.lt_of_lt_of_le (V17_1).lt (Nat.le_of_eq g22.symm))
  have V31_3 := V29_3.other W31 (Ne.symm ne_b12_b22)
  have ne_b12_b29 : b12 ≠ b29 := Nat.ne_of_lt (Nat.lt_of_lt_of_le (V24_1).lt (Nat.le_of_eq g29.symm))
  have V31_4 := V_b29.other W31 (Ne.symm ne_b12_b29)
  have z31 : n0 ≤ h31.size := by rw [W31.size]; exact z29
  have K31 : Keep h0 h31 [a] := K29.wr W31 (Or.inr sz_b12)
  have N31 := Fr.snoc X31 N28 g_b12
  have pre32 : ∀ tt_, Steps p.tables e below (T31.setTop (mkF m 137 #[.val (.ref a), .val (.long q), .second, .val (.int (4 : Int32)), .val (.int lw), .val (.int (0 : Int32)), .val (.int (32768 : Int32))] [])) tt_ → Steps p.tables e below (s₁.setTop (entryFrame m #[(.ref a), (.long q)] 7)) tt_ := fun tt_ kk_ => pre25 tt_ (by
    show Steps p.tables e below (T24.setTop (mkF m 118 #[.val (.ref a), .val (.long q), .second, .val (.int (4 : Int32)), .val (.int lw), .val (.int (0 : Int32)), .val (.int (32768 : Int32))] [])) _
    refine XS.aloadN X24.here hx rfl (hb hby own_d_prog_35_method_1_code_118) rfl rfl ?_
    refine st26 _ ?_
    refine XS.iload X26.here hx rfl (hb hby own_d_prog_35_method_1_code_122) rfl ?_
    show Steps p.tables e below (T26.setTop (mkF m 124 #[.val (.ref a), .val (.long q), .second, .val (.int (4 : Int32)), .val (.int lw), .val (.int (0 : Int32)), .val (.int (32768 : Int32))] [(.int (0 : Int32)), (.ref b12)])) _
    refine XS.iload X26.here hx rfl (hb hby own_d_prog_35_method_1_code_124) rfl ?_
    refine XS.sipush X26.here hx rfl (hb hby own_d_prog_35_method_1_code_126) ?_
    refine XS.isub X26.here hx rfl (hb hby own_d_prog_35_method_1_code_129) rfl ?_
    show Steps p.tables e below (T26.setTop (mkF m 130 #[.val (.ref a), .val (.long q), .second, .val (.int (4 : Int32)), .val (.int lw), .val (.int (0 : Int32)), .val (.int (32768 : Int32))] [(.int ((32768 : Int32) - (32764 : Int32))), (.int (0 : Int32)), (.ref b12)])) _
    rw [fold27]
    show Steps p.tables e below (T26.setTop (mkF m 130 #[.val (.ref a), .val (.long q), .second, .val (.int (4 : Int32)), .val (.int lw), .val (.int (0 : Int32)), .val (.int (32768 : Int32))] [(.int (4 : Int32)), (.int (0 : Int32)), (.ref b12)])) _
    refine XS.iconst X26.here hx rfl (hb hby own_d_prog_35_method_1_code_130) ?_
    show Steps p.tables e below (T26.setTop (mkF m 131 #[.val (.ref a), .val (.long q), .second, .val (.int (4 : Int32)), .val (.int lw), .val (.int (0 : Int32)), .val (.int (32768 : Int32))] [(.int (0 : Int32)), (.int (4 : Int32)), (.int (0 : Int32)), (.ref b12)])) _
    refine st28 _ ?_
    refine st29 _ ?_
    refine st31 _ ?_
    exact kk_)
  obtain ⟨T33, X33, e33, st33⟩ := getF X31 hx hZ hown (host := "") (Or.inl (hw _ (List.mem_of_getElem? (i := 22) rfl))) Via.refl e31 F31_3 (g := (mkF m 138 #[.val (.ref a), .val (.long q), .second, .val (.int (4 : Int32)), .val (.int lw), .val (.int (0 : Int32)), .val (.int (32768 : Int32))] [(.ref a)])) rfl rfl (hb hby own_d_prog_35_method_1_code_138)
  have fold34 : ((2 : Int32) * (0 : Int32)) = (0 : Int32) := by decide +kernel
  obtain ⟨T35, X35, e35, st35⟩ := getF X33 hx hZ hown (host := "") (Or.inl (hw _ (List.mem_of_getElem? (i := 18) rfl))) Via.refl e33 F31_1 (g := (mkF m 146 #[.val (.ref a), .val (.long q), .second, .val (.int (4 : Int32)), .val (.int lw), .val (.int (0 : Int32)), .val (.int (32768 : Int32))] [(.ref a), (.int (0 : Int32)), (.ref b16)])) rfl rfl (hb hby own_d_prog_35_method_1_code_146)
  obtain ⟨cl36, Ar36, q36, S36, M36, H36, G36⟩ := id V31_0
  have hin36 : ¬ ((0 : Int32) < 0 ∨ cl36.slots.size ≤ ((0 : Int32)).toNatClampNeg) := inb_of S36 ⟨by decide, by decide⟩
  have hat36 : cl36.slots[((0 : Int32)).toNatClampNeg]? = some (.ref b22) := Has.at H36 hin36 rfl
  obtain ⟨cl37, Ar37, q37, S37, M37, H37, G37⟩ := id V31_2
  have hin37 : ¬ ((0 : Int32) < 0 ∨ cl37.slots.size ≤ ((0 : Int32)).toNatClampNeg) := inb_of S37 ⟨by decide, by decide⟩
  obtain ⟨T38, h38, X38, e38, W38, st38⟩ := stR X35 hx hZ e35 Ar37 (j := (0 : Int32)) hin37 rfl (own_stoA Ar37 q37 O16 (Ins.self X31_1)) (g := (mkF m 152 #[.val (.ref a), .val (.long q), .second, .val (.int (4 : Int32)), .val (.int lw), .val (.int (0 : Int32)), .val (.int (32768 : Int32))] [(.ref b22), (.int (0 : Int32)), (.ref b16)])) rfl rfl (hb hby own_d_prog_35_method_1_code_152)
  have V_b16_38 : Arv Z h38 b16 k16 (.array .long) (8 : Int32) [(.ref b22), .null, .null, .null, .null, .null, .null, .null] .null := Arv.set Ar37 q37 S37 M37 H37 G37 rfl W38 0 rfl (Nat.le_of_ble_eq_true rfl)
  have F38_0 := F31_0.other W38 (Or.inl ne_a_b16)
  have F38_1 := F31_1.other W38 (Or.inl ne_a_b16)
  have F38_2 := F31_2.other W38 (Or.inl ne_a_b16)
  have F38_3 := F31_3.other W38 (Or.inl ne_a_b16)
  have X38_0 := X31_0.wr W38
  have X38_1 := X31_1.wr W38
  have X38_2 := X31_2.wr W38
  have S38_0 := S31_0.wr W38
  have V38_0 := V31_0.other W38 ne_b10_b16
  have V38_1 := V_b12_31.other W38 ne_b12_b16
  have ne_b16_b22 : b16 ≠ b22 := Nat.ne_of_lt (Nat.lt_of_lt_of_le (V17_2).lt (Nat.le_of_eq g22.symm))
  have V38_3 := V31_3.other W38 (Ne.symm ne_b16_b22)
  have ne_b16_b29 : b16 ≠ b29 := Nat.ne_of_lt (Nat.lt_of_lt_of_le (V24_2).lt (Nat.le_of_eq g29.symm))
  have V38_4 := V31_4.other W38 (Ne.symm ne_b16_b29)
  have z38 : n0 ≤ h38.size := by rw [W38.size]; exact z31
  have K38 : Keep h0 h38 [a] := K31.wr W38 (Or.inr sz_b16)
  have N38 := Fr.snoc X38 N31 g_b16
  have pre39 : ∀ tt_, Steps p.tables e below (T38.setTop (mkF m 153 #[.val (.ref a), .val (.long q), .second, .val (.int (4 : Int32)), .val (.int lw), .val (.int (0 : Int32)), .val (.int (32768 : Int32))] [])) tt_ → Steps p.tables e below (s₁.setTop (entryFrame m #[(.ref a), (.long q)] 7)) tt_ := fun tt_ kk_ => pre32 tt_ (by
    show Steps p.tables e below (T31.setTop (mkF m 137 #[.val (.ref a), .val (.long q), .second, .val (.int (4 : Int32)), .val (.int lw), .val (.int (0 : Int32)), .val (.int (32768 : Int32))] [])) _
    refine XS.aloadN X31.here hx rfl (hb hby own_d_prog_35_method_1_code_137) rfl rfl ?_
    refine st33 _ ?_
    refine XS.iconst X33.here hx rfl (hb hby own_d_prog_35_method_1_code_141) ?_
    show Steps p.tables e below (T33.setTop (mkF m 142 #[.val (.ref a), .val (.long q), .second, .val (.int (4 : Int32)), .val (.int lw), .val (.int (0 : Int32)), .val (.int (32768 : Int32))] [(.int (2 : Int32)), (.ref b16)])) _
    refine XS.iload X33.here hx rfl (hb hby own_d_prog_35_method_1_code_142) rfl ?_
    refine XS.imul X33.here hx rfl (hb hby own_d_prog_35_method_1_code_144) rfl ?_
    show Steps p.tables e below (T33.setTop (mkF m 145 #[.val (.ref a), .val (.long q), .second, .val (.int (4 : Int32)), .val (.int lw), .val (.int (0 : Int32)), .val (.int (32768 : Int32))] [(.int ((2 : Int32) * (0 : Int32))), (.ref b16)])) _
    rw [fold34]
    show Steps p.tables e below (T33.setTop (mkF m 145 #[.val (.ref a), .val (.long q), .second, .val (.int (4 : Int32)), .val (.int lw), .val (.int (0 : Int32)), .val (.int (32768 : Int32))] [(.int (0 : Int32)), (.ref b16)])) _
    refine XS.aloadN X33.here hx rfl (hb hby own_d_prog_35_method_1_code_145) rfl rfl ?_
    refine st35 _ ?_
    refine XS.iload X35.here hx rfl (hb hby own_d_prog_35_method_1_code_149) rfl ?_
    refine X35.aaload hx (j := (0 : Int32)) (v := (.ref b22)) (by rw [e35]; exact Ar36.1) (State.isArrayOf_alike hZ.alike Ar36.2.1) rfl Ar36.2.2 hin36 hat36 (g := (mkF m 151 #[.val (.ref a), .val (.long q), .second, .val (.int (4 : Int32)), .val (.int lw), .val (.int (0 : Int32)), .val (.int (32768 : Int32))] [(.int (0 : Int32)), (.ref b10), (.int (0 : Int32)), (.ref b16)])) rfl rfl (hb hby own_d_prog_35_method_1_code_151) _ ?_
    refine st38 _ ?_
    exact kk_)
  obtain ⟨T40, X40, e40, st40⟩ := getF X38 hx hZ hown (host := "") (Or.inl (hw _ (List.mem_of_getElem? (i := 22) rfl))) Via.refl e38 F38_3 (g := (mkF m 162 #[.val (.ref a), .val (.long q), .second, .val (.int (4 : Int32)), .val (.int lw), .val (.int (0 : Int32)), .val (.int (32768 : Int32))] [(.ref a)])) rfl rfl (hb hby own_d_prog_35_method_1_code_162)
  have fold41 : ((2 : Int32) * (0 : Int32)) = (0 : Int32) := by decide +kernel
  have fold42 : ((0 : Int32) + (1 : Int32)) = (1 : Int32) := by decide +kernel
  obtain ⟨T43, X43, e43, st43⟩ := getF X40 hx hZ hown (host := "") (Or.inl (hw _ (List.mem_of_getElem? (i := 20) rfl))) Via.refl e40 F38_2 (g := (mkF m 172 #[.val (.ref a), .val (.long q), .second, .val (.int (4 : Int32)), .val (.int lw), .val (.int (0 : Int32)), .val (.int (32768 : Int32))] [(.ref a), (.int (1 : Int32)), (.ref b16)])) rfl rfl (hb hby own_d_prog_35_method_1_code_172)
  obtain ⟨cl44, Ar44, q44, S44, M44, H44, G44⟩ := id V38_1
  have hin44 : ¬ ((0 : Int32) < 0 ∨ cl44.slots.size ≤ ((0 : Int32)).toNatClampNeg) := inb_of S44 ⟨by decide, by decide⟩
  have hat44 : cl44.slots[((0 : Int32)).toNatClampNeg]? = some (.ref b29) := Has.at H44 hin44 rfl
  obtain ⟨cl45, Ar45, q45, S45, M45, H45, G45⟩ := id V_b16_38
  have hin45 : ¬ ((1 : Int32) < 0 ∨ cl45.slots.size ≤ ((1 : Int32)).toNatClampNeg) := inb_of S45 ⟨by decide, by decide⟩
  obtain ⟨T46, h46, X46, e46, W46, st46⟩ := stR X43 hx hZ e43 Ar45 (j := (1 : Int32)) hin45 rfl (own_stoA Ar45 q45 O16 (Ins.self X38_2)) (g := (mkF m 178 #[.val (.ref a), .val (.long q), .second, .val (.int (4 : Int32)), .val (.int lw), .val (.int (0 : Int32)), .val (.int (32768 : Int32))] [(.ref b29), (.int (1 : Int32)), (.ref b16)])) rfl rfl (hb hby own_d_prog_35_method_1_code_178)
  have V_b16_46 : Arv Z h46 b16 k16 (.array .long) (8 : Int32) [(.ref b22), (.ref b29), .null, .null, .null, .null, .null, .null] .null := Arv.set Ar45 q45 S45 M45 H45 G45 rfl W46 1 rfl (Nat.le_of_ble_eq_true rfl)
  have F46_0 := F38_0.other W46 (Or.inl ne_a_b16)
  have F46_1 := F38_1.other W46 (Or.inl ne_a_b16)
  have F46_2 := F38_2.other W46 (Or.inl ne_a_b16)
  have F46_3 := F38_3.other W46 (Or.inl ne_a_b16)
  have X46_0 := X38_0.wr W46
  have X46_1 := X38_1.wr W46
  have X46_2 := X38_2.wr W46
  have S46_0 := S38_0.wr W46
  have V46_0 := V38_0.other W46 ne_b10_b16
  have V46_1 := V38_1.other W46 ne_b12_b16
  have V46_3 := V38_3.other W46 (Ne.symm ne_b16_b22)
  have V46_4 := V38_4.other W46 (Ne.symm ne_b16_b29)
  have z46 : n0 ≤ h46.size := by rw [W46.size]; exact z38
  have K46 : Keep h0 h46 [a] := K38.wr W46 (Or.inr sz_b16)
  have N46 := Fr.snoc X46 N38 g_b16
  have fold47 : ((0 : Int32) + (1 : Int32)) = (1 : Int32) := by decide +kernel
  have pre48 : ∀ tt_, Steps p.tables e below (T46.setTop (mkF m 78 #[.val (.ref a), .val (.long q), .second, .val (.int (4 : Int32)), .val (.int lw), .val (.int (1 : Int32)), .val (.int (32768 : Int32))] [])) tt_ → Steps p.tables e below (s₁.setTop (entryFrame m #[(.ref a), (.long q)] 7)) tt_ := fun tt_ kk_ => pre39 tt_ (by
    show Steps p.tables e below (T38.setTop (mkF m 153 #[.val (.ref a), .val (.long q), .second, .val (.int (4 : Int32)), .val (.int lw), .val (.int (0 : Int32)), .val (.int (32768 : Int32))] [])) _
    refine XS.iload X38.here hx rfl (hb hby own_d_prog_35_method_1_code_153) rfl ?_
    show Steps p.tables e below (T38.setTop (mkF m 155 #[.val (.ref a), .val (.long q), .second, .val (.int (4 : Int32)), .val (.int lw), .val (.int (0 : Int32)), .val (.int (32768 : Int32))] [(.int (32768 : Int32))])) _
    refine XS.sipush X38.here hx rfl (hb hby own_d_prog_35_method_1_code_155) ?_
    refine XS.icmpNo X38.here hx rfl (hb hby own_d_prog_35_method_1_code_158) rfl (tlt ((by decide) : (32764 : Int32) < (32768 : Int32))).2.2.2 ?_
    refine XS.aloadN X38.here hx rfl (hb hby own_d_prog_35_method_1_code_161) rfl rfl ?_
    refine st40 _ ?_
    refine XS.iconst X40.here hx rfl (hb hby own_d_prog_35_method_1_code_165) ?_
    refine XS.iload X40.here hx rfl (hb hby own_d_prog_35_method_1_code_166) rfl ?_
    refine XS.imul X40.here hx rfl (hb hby own_d_prog_35_method_1_code_168) rfl ?_
    show Steps p.tables e below (T40.setTop (mkF m 169 #[.val (.ref a), .val (.long q), .second, .val (.int (4 : Int32)), .val (.int lw), .val (.int (0 : Int32)), .val (.int (32768 : Int32))] [(.int ((2 : Int32) * (0 : Int32))), (.ref b16)])) _
    rw [fold41]
    show Steps p.tables e below (T40.setTop (mkF m 169 #[.val (.ref a), .val (.long q), .second, .val (.int (4 : Int32)), .val (.int lw), .val (.int (0 : Int32)), .val (.int (32768 : Int32))] [(.int (0 : Int32)), (.ref b16)])) _
    refine XS.iconst X40.here hx rfl (hb hby own_d_prog_35_method_1_code_169) ?_
    refine XS.iadd X40.here hx rfl (hb hby own_d_prog_35_method_1_code_170) rfl ?_
    show Steps p.tables e below (T40.setTop (mkF m 171 #[.val (.ref a), .val (.long q), .second, .val (.int (4 : Int32)), .val (.int lw), .val (.int (0 : Int32)), .val (.int (32768 : Int32))] [(.int ((0 : Int32) + (1 : Int32))), (.ref b16)])) _
    rw [fold42]
    show Steps p.tables e below (T40.setTop (mkF m 171 #[.val (.ref a), .val (.long q), .second, .val (.int (4 : Int32)), .val (.int lw), .val (.int (0 : Int32)), .val (.int (32768 : Int32))] [(.int (1 : Int32)), (.ref b16)])) _
    refine XS.aloadN X40.here hx rfl (hb hby own_d_prog_35_method_1_code_171) rfl rfl ?_
    refine st43 _ ?_
    refine XS.iload X43.here hx rfl (hb hby own_d_prog_35_method_1_code_175) rfl ?_
    refine X43.aaload hx (j := (0 : Int32)) (v := (.ref b29)) (by rw [e43]; exact Ar44.1) (State.isArrayOf_alike hZ.alike Ar44.2.1) rfl Ar44.2.2 hin44 hat44 (g := (mkF m 177 #[.val (.ref a), .val (.long q), .second, .val (.int (4 : Int32)), .val (.int lw), .val (.int (0 : Int32)), .val (.int (32768 : Int32))] [(.int (0 : Int32)), (.ref b12), (.int (1 : Int32)), (.ref b16)])) rfl rfl (hb hby own_d_prog_35_method_1_code_177) _ ?_
    refine st46 _ ?_
    refine XS.iinc X46.here hx rfl (hb hby own_d_prog_35_method_1_code_179) rfl (l' := #[.val (.ref a), .val (.long q), .second, .val (.int (4 : Int32)), .val (.int lw), .val (.int ((0 : Int32) + (1 : Int32))), .val (.int (32768 : Int32))]) rfl ?_
    show Steps p.tables e below (T46.setTop (mkF m 182 #[.val (.ref a), .val (.long q), .second, .val (.int (4 : Int32)), .val (.int lw), .val (.int ((0 : Int32) + (1 : Int32))), .val (.int (32768 : Int32))] [])) _
    rw [fold47]
    show Steps p.tables e below (T46.setTop (mkF m 182 #[.val (.ref a), .val (.long q), .second, .val (.int (4 : Int32)), .val (.int lw), .val (.int (1 : Int32)), .val (.int (32768 : Int32))] [])) _
    refine XS.goto X46.here hx rfl (pc0 := 182) (pc' := 78) rfl (hb hby own_d_prog_35_method_1_code_182) (by decide) (by decide) ?_
    exact kk_)
  have fold49 : ((4 : Int32) - (1 : Int32)) = (3 : Int32) := by decide +kernel
  obtain ⟨T50, X50, e50, st50⟩ := getF X46 hx hZ hown (host := "") (Or.inl (hw _ (List.mem_of_getElem? (i := 18) rfl))) Via.refl e46 F46_1 (g := (mkF m 102 #[.val (.ref a), .val (.long q), .second, .val (.int (4 : Int32)), .val (.int lw), .val (.int (1 : Int32)), .val (.int (32768 : Int32))] [(.ref a)])) rfl rfl (hb hby own_d_prog_35_method_1_code_102)
  obtain ⟨_, _, ⟨T51, L51, k51, n51⟩, -, X51, ⟨Lc51, hQ51, l51, y51, z51⟩, st51⟩ := Jvm.LawKit.callS X50 hx (y := (⟨"java/lang/Math", "min", "(II)I"⟩ : MethodName)) hown (mvT hZ (hw _ (List.mem_of_getElem? (i := 24) rfl))) (mvT hZ (hw _ (List.mem_of_getElem? (i := 25) rfl))) (mvT hZ (hw _ (List.mem_of_getElem? (i := 26) rfl))) (mvT hZ (hw _ (List.mem_of_getElem? (i := 27) rfl))) (by decide) (backOf (W := 2) (rmMin l Z a0 hw [] (32768 : Int32) (32764 : Int32) (32764 : Int32) h46 n0 z46 (by decide)) hZ (hw _ (List.mem_of_getElem? (i := 27) rfl)) (hw _ (List.mem_of_getElem? (i := 26) rfl)) (by decide) (by decide)) (g := (mkF m 112 #[.val (.ref a), .val (.long q), .second, .val (.int (4 : Int32)), .val (.int lw), .val (.int (1 : Int32)), .val (.int (32768 : Int32))] [(.int (32764 : Int32)), (.int (32768 : Int32)), (.int (1 : Int32)), (.ref b10)])) rfl (by rw [hml]; rfl) (argsL := [(.int (32768 : Int32)), (.int (32764 : Int32))]) (rest := [(.int (1 : Int32)), (.ref b10)]) (lenOf own_pd0 rfl) rfl (by show 2 * 0 + _ ≤ _; exact Nat.le_of_eq rfl) (hb hby own_d_prog_35_method_1_code_112) (fun _ _ => ⟨rfl, e50, (by decide : 5 + 0 ≤ _), (by decide : 32784 + 0 ≤ _)⟩)
  dsimp only [Pt.U, Pt.locs, Pt.cells, Pt.slots] at X51 l51 y51 z51 st51 hQ51
  replace l51 := l51.symm; subst l51 y51 z51
  obtain ⟨rfl, N51q, e51⟩ := hQ51
  have N51 := Fr.app N46 N51q
  obtain ⟨T52, h52, k52, X52, e52, E52, A52, Ea52, st52⟩ := newPE X51 hx hZ (hw _ (List.mem_of_getElem? (i := 28) rfl)) e51 (g := (mkF m 115 #[.val (.ref a), .val (.long q), .second, .val (.int (4 : Int32)), .val (.int lw), .val (.int (1 : Int32)), .val (.int (32768 : Int32))] [(.int (32764 : Int32)), (.int (1 : Int32)), (.ref b10)])) rfl (hb hby own_d_prog_35_method_1_code_115) rfl (by decide) (cap := 32764) (by decide) (by decide) (by decide) (by decide) (ad := "[J") (by decide +kernel)
  obtain ⟨b52, g52⟩ : ∃ z, z = h46.size := ⟨_, rfl⟩
  rw [← g52] at A52 st52 Ea52
  have g_b52 : n0 ≤ b52 := Nat.le_trans z46 (Nat.le_of_eq g52.symm)
  have sz_b52 : h0.size ≤ b52 := Nat.le_trans K46.1 (Nat.le_of_eq g52.symm)
  have F52_0 := F46_1.ext E52
  have F52_1 := F46_2.ext E52
  have F52_2 := F46_3.ext E52
  have X52_0 := X46_0.ext E52
  have S52_0 := S46_0.ext E52
  have V52_0 := V46_0.ext E52
  have V52_1 := V46_1.ext E52
  have V52_2 := V_b16_46.ext E52
  have V52_3 := V46_3.ext E52
  have V52_4 := V46_4.ext E52
  have z52 : n0 ≤ h52.size := Nat.le_trans z46 E52.1
  have K52 : Keep h0 h52 [a] := K46.ext E52
  have V_b52 : Arv Z h52 b52 k52 .long (32764 : Int32) [] (.long (0 : Int64)) := (Arv.new A52 (by decide)).pad (pad_rep [] (.long (0 : Int64)) 0)
  obtain ⟨cl53, Ar53, q53, S53, M53, H53, G53⟩ := id V52_0
  have hin53 : ¬ ((1 : Int32) < 0 ∨ cl53.slots.size ≤ ((1 : Int32)).toNatClampNeg) := inb_of S53 ⟨by decide, by decide⟩
  obtain ⟨T54, h54, X54, e54, W54, st54⟩ := stR X52 hx hZ e52 Ar53 (j := (1 : Int32)) hin53 rfl (own_stoA Ar53 q53 O10 (Ins.self Ea52)) (g := (mkF m 117 #[.val (.ref a), .val (.long q), .second, .val (.int (4 : Int32)), .val (.int lw), .val (.int (1 : Int32)), .val (.int (32768 : Int32))] [(.ref b52), (.int (1 : Int32)), (.ref b10)])) rfl rfl (hb hby own_d_prog_35_method_1_code_117)
  have V_b10_54 : Arv Z h54 b10 k10 (.array .long) (4 : Int32) [(.ref b22), (.ref b52), .null, .null] .null := Arv.set Ar53 q53 S53 M53 H53 G53 rfl W54 1 rfl (Nat.le_of_ble_eq_true rfl)
  have F54_0 := F52_0.other W54 (Or.inl ne_a_b10)
  have F54_1 := F52_1.other W54 (Or.inl ne_a_b10)
  have F54_2 := F52_2.other W54 (Or.inl ne_a_b10)
  have X54_0 := X52_0.wr W54
  have X54_1 := Ea52.wr W54
  have S54_0 := S52_0.wr W54
  have V54_1 := V52_1.other W54 (Ne.symm ne_b10_b12)
  have V54_2 := V52_2.other W54 (Ne.symm ne_b10_b16)
  have V54_3 := V52_3.other W54 (Ne.symm ne_b10_b22)
  have ne_b10_b29 : b10 ≠ b29 := Nat.ne_of_lt (Nat.lt_of_lt_of_le (V_b10_24).lt (Nat.le_of_eq g29.symm))
  have V54_4 := V52_4.other W54 (Ne.symm ne_b10_b29)
  have ne_b10_b52 : b10 ≠ b52 := Nat.ne_of_lt (Nat.lt_of_lt_of_le (V46_0).lt (Nat.le_of_eq g52.symm))
  have V54_5 := V_b52.other W54 (Ne.symm ne_b10_b52)
  have z54 : n0 ≤ h54.size := by rw [W54.size]; exact z52
  have K54 : Keep h0 h54 [a] := K52.wr W54 (Or.inr sz_b10)
  have N54 := Fr.snoc X54 N51 g_b10
  have pre55 : ∀ tt_, Steps p.tables e below (T54.setTop (mkF m 118 #[.val (.ref a), .val (.long q), .second, .val (.int (4 : Int32)), .val (.int lw), .val (.int (1 : Int32)), .val (.int (32768 : Int32))] [])) tt_ → Steps p.tables e below (s₁.setTop (entryFrame m #[(.ref a), (.long q)] 7)) tt_ := fun tt_ kk_ => pre48 tt_ (by
    show Steps p.tables e below (T46.setTop (mkF m 78 #[.val (.ref a), .val (.long q), .second, .val (.int (4 : Int32)), .val (.int lw), .val (.int (1 : Int32)), .val (.int (32768 : Int32))] [])) _
    refine XS.iload X46.here hx rfl (hb hby own_d_prog_35_method_1_code_78) rfl ?_
    refine XS.iloadN X46.here hx rfl (hb hby own_d_prog_35_method_1_code_80) rfl ?_
    refine XS.icmpNo X46.here hx rfl (hb hby own_d_prog_35_method_1_code_81) rfl (tlt ((by decide) : (1 : Int32) < (4 : Int32))).2.1 ?_
    refine XS.iload X46.here hx rfl (hb hby own_d_prog_35_method_1_code_84) rfl ?_
    refine XS.iloadN X46.here hx rfl (hb hby own_d_prog_35_method_1_code_86) rfl ?_
    show Steps p.tables e below (T46.setTop (mkF m 87 #[.val (.ref a), .val (.long q), .second, .val (.int (4 : Int32)), .val (.int lw), .val (.int (1 : Int32)), .val (.int (32768 : Int32))] [(.int (4 : Int32)), (.int (1 : Int32))])) _
    refine XS.iconst X46.here hx rfl (hb hby own_d_prog_35_method_1_code_87) ?_
    refine XS.isub X46.here hx rfl (hb hby own_d_prog_35_method_1_code_88) rfl ?_
    show Steps p.tables e below (T46.setTop (mkF m 89 #[.val (.ref a), .val (.long q), .second, .val (.int (4 : Int32)), .val (.int lw), .val (.int (1 : Int32)), .val (.int (32768 : Int32))] [(.int ((4 : Int32) - (1 : Int32))), (.int (1 : Int32))])) _
    rw [fold49]
    show Steps p.tables e below (T46.setTop (mkF m 89 #[.val (.ref a), .val (.long q), .second, .val (.int (4 : Int32)), .val (.int lw), .val (.int (1 : Int32)), .val (.int (32768 : Int32))] [(.int (3 : Int32)), (.int (1 : Int32))])) _
    refine XS.icmpNo X46.here hx rfl (hb hby own_d_prog_35_method_1_code_89) rfl (tlt ((by decide) : (1 : Int32) < (3 : Int32))).2.1 ?_
    refine X46.ldcInt hx hown (mvT hZ (hw _ (List.mem_of_getElem? (i := 52) rfl))) (g := (mkF m 92 #[.val (.ref a), .val (.long q), .second, .val (.int (4 : Int32)), .val (.int lw), .val (.int (1 : Int32)), .val (.int (32768 : Int32))] [])) rfl (hb hby own_d_prog_35_method_1_code_92) _ ?_
    refine XS.goto X46.here hx rfl (pc0 := 94) (pc' := 99) rfl (hb hby own_d_prog_35_method_1_code_94) (by decide) (by decide) ?_
    refine XS.istore X46.here hx rfl (hb hby own_d_prog_35_method_1_code_99) rfl (l' := #[.val (.ref a), .val (.long q), .second, .val (.int (4 : Int32)), .val (.int lw), .val (.int (1 : Int32)), .val (.int (32768 : Int32))]) rfl ?_
    show Steps p.tables e below (T46.setTop (mkF m 101 #[.val (.ref a), .val (.long q), .second, .val (.int (4 : Int32)), .val (.int lw), .val (.int (1 : Int32)), .val (.int (32768 : Int32))] [])) _
    refine XS.aloadN X46.here hx rfl (hb hby own_d_prog_35_method_1_code_101) rfl rfl ?_
    refine st50 _ ?_
    refine XS.iload X50.here hx rfl (hb hby own_d_prog_35_method_1_code_105) rfl ?_
    refine XS.iload X50.here hx rfl (hb hby own_d_prog_35_method_1_code_107) rfl ?_
    refine XS.sipush X50.here hx rfl (hb hby own_d_prog_35_method_1_code_109) ?_
    show Steps p.tables e below (T50.setTop (mkF m 112 #[.val (.ref a), .val (.long q), .second, .val (.int (4 : Int32)), .val (.int lw), .val (.int (1 : Int32)), .val (.int (32768 : Int32))] [(.int (32764 : Int32)), (.int (32768 : Int32)), (.int (1 : Int32)), (.ref b10)])) _
    refine st51 _ ?_
    refine st52 _ ?_
    refine st54 _ ?_
    exact kk_)
  obtain ⟨T56, X56, e56, st56⟩ := getF X54 hx hZ hown (host := "") (Or.inl (hw _ (List.mem_of_getElem? (i := 20) rfl))) Via.refl e54 F54_1 (g := (mkF m 119 #[.val (.ref a), .val (.long q), .second, .val (.int (4 : Int32)), .val (.int lw), .val (.int (1 : Int32)), .val (.int (32768 : Int32))] [(.ref a)])) rfl rfl (hb hby own_d_prog_35_method_1_code_119)
  have fold57 : ((32768 : Int32) - (32764 : Int32)) = (4 : Int32) := by decide +kernel
  obtain ⟨_, _, ⟨T58, L58, k58, n58⟩, -, X58, ⟨Lc58, hQ58, l58, y58, z58⟩, st58⟩ := Jvm.LawKit.callS X56 hx (y := (⟨"java/lang/Math", "max", "(II)I"⟩ : MethodName)) hown (mvT hZ (hw _ (List.mem_of_getElem? (i := 30) rfl))) (mvT hZ (hw _ (List.mem_of_getElem? (i := 31) rfl))) (mvT hZ (hw _ (List.mem_of_getElem? (i := 26) rfl))) (mvT hZ (hw _ (List.mem_of_getElem? (i := 32) rfl))) (by decide) (backOf (W := 2) (rmMax l Z a0 hw [] (4 : Int32) (0 : Int32) (4 : Int32) h54 n0 z54 (by decide)) hZ (hw _ (List.mem_of_getElem? (i := 32) rfl)) (hw _ (List.mem_of_getElem? (i := 26) rfl)) (by decide) (by decide)) (g := (mkF m 131 #[.val (.ref a), .val (.long q), .second, .val (.int (4 : Int32)), .val (.int lw), .val (.int (1 : Int32)), .val (.int (32768 : Int32))] [(.int (0 : Int32)), (.int (4 : Int32)), (.int (1 : Int32)), (.ref b12)])) rfl (by rw [hml]; rfl) (argsL := [(.int (4 : Int32)), (.int (0 : Int32))]) (rest := [(.int (1 : Int32)), (.ref b12)]) (lenOf own_pd0 rfl) rfl (by show 2 * 0 + _ ≤ _; exact Nat.le_of_eq rfl) (hb hby own_d_prog_35_method_1_code_131) (fun _ _ => ⟨rfl, e56, (by decide : 6 + 0 ≤ _), (by decide : 65548 + 0 ≤ _)⟩)
  dsimp only [Pt.U, Pt.locs, Pt.cells, Pt.slots] at X58 l58 y58 z58 st58 hQ58
  replace l58 := l58.symm; subst l58 y58 z58
  obtain ⟨rfl, N58q, e58⟩ := hQ58
  have N58 := Fr.app N54 N58q
  obtain ⟨T59, h59, k59, X59, e59, E59, A59, Ea59, st59⟩ := newPE X58 hx hZ (hw _ (List.mem_of_getElem? (i := 28) rfl)) e58 (g := (mkF m 134 #[.val (.ref a), .val (.long q), .second, .val (.int (4 : Int32)), .val (.int lw), .val (.int (1 : Int32)), .val (.int (32768 : Int32))] [(.int (4 : Int32)), (.int (1 : Int32)), (.ref b12)])) rfl (hb hby own_d_prog_35_method_1_code_134) rfl (by decide) (cap := 4) (by decide) (by decide) (by decide) (by decide) (ad := "[J") (by decide +kernel)
  obtain ⟨b59, g59⟩ : ∃ z, z = h54.size := ⟨_, rfl⟩
  rw [← g59] at A59 st59 Ea59
  have g_b59 : n0 ≤ b59 := Nat.le_trans z54 (Nat.le_of_eq g59.symm)
  have sz_b59 : h0.size ≤ b59 := Nat.le_trans K54.1 (Nat.le_of_eq g59.symm)
  have F59_0 := F54_0.ext E59
  have F59_1 := F54_1.ext E59
  have F59_2 := F54_2.ext E59
  have X59_0 := X54_0.ext E59
  have X59_1 := X54_1.ext E59
  have S59_0 := S54_0.ext E59
  have V59_0 := V_b10_54.ext E59
  have V59_1 := V54_1.ext E59
  have V59_2 := V54_2.ext E59
  have V59_3 := V54_3.ext E59
  have V59_4 := V54_4.ext E59
  have V59_5 := V54_5.ext E59
  have z59 : n0 ≤ h59.size := Nat.le_trans z54 E59.1
  have K59 : Keep h0 h59 [a] := K54.ext E59
  have V_b59 : Arv Z h59 b59 k59 .long (4 : Int32) [] (.long (0 : Int64)) := (Arv.new A59 (by decide)).pad (pad_rep [] (.long (0 : Int64)) 0)
  obtain ⟨cl60, Ar60, q60, S60, M60, H60, G60⟩ := id V59_1
  have hin60 : ¬ ((1 : Int32) < 0 ∨ cl60.slots.size ≤ ((1 : Int32)).toNatClampNeg) := inb_of S60 ⟨by decide, by decide⟩
  obtain ⟨T61, h61, X61, e61, W61, st61⟩ := stR X59 hx hZ e59 Ar60 (j := (1 : Int32)) hin60 rfl (own_stoA Ar60 q60 O12 (Ins.self Ea59)) (g := (mkF m 136 #[.val (.ref a), .val (.long q), .second, .val (.int (4 : Int32)), .val (.int lw), .val (.int (1 : Int32)), .val (.int (32768 : Int32))] [(.ref b59), (.int (1 : Int32)), (.ref b12)])) rfl rfl (hb hby own_d_prog_35_method_1_code_136)
  have V_b12_61 : Arv Z h61 b12 k12 (.array .long) (4 : Int32) [(.ref b29), (.ref b59), .null, .null] .null := Arv.set Ar60 q60 S60 M60 H60 G60 rfl W61 1 rfl (Nat.le_of_ble_eq_true rfl)
  have F61_0 := F59_0.other W61 (Or.inl ne_a_b12)
  have F61_1 := F59_1.other W61 (Or.inl ne_a_b12)
  have F61_2 := F59_2.other W61 (Or.inl ne_a_b12)
  have X61_0 := X59_0.wr W61
  have X61_1 := X59_1.wr W61
  have X61_2 := Ea59.wr W61
  have S61_0 := S59_0.wr W61
  have V61_0 := V59_0.other W61 ne_b10_b12
  have V61_2 := V59_2.other W61 (Ne.symm ne_b12_b16)
  have V61_3 := V59_3.other W61 (Ne.symm ne_b12_b22)
  have V61_4 := V59_4.other W61 (Ne.symm ne_b12_b29)
  have ne_b12_b52 : b12 ≠ b52 := Nat.ne_of_lt (Nat.lt_of_lt_of_le (V46_1).lt (Nat.le_of_eq g52.symm))
  have V61_5 := V59_5.other W61 (Ne.symm ne_b12_b52)
  have ne_b12_b59 : b12 ≠ b59 := Nat.ne_of_lt (Nat.lt_of_lt_of_le (V54_1).lt (Nat.le_of_eq g59.symm))
  have V61_6 := V_b59.other W61 (Ne.symm ne_b12_b59)
  have z61 : n0 ≤ h61.size := by rw [W61.size]; exact z59
  have K61 : Keep h0 h61 [a] := K59.wr W61 (Or.inr sz_b12)
  have N61 := Fr.snoc X61 N58 g_b12
  have pre62 : ∀ tt_, Steps p.tables e below (T61.setTop (mkF m 137 #[.val (.ref a), .val (.long q), .second, .val (.int (4 : Int32)), .val (.int lw), .val (.int (1 : Int32)), .val (.int (32768 : Int32))] [])) tt_ → Steps p.tables e below (s₁.setTop (entryFrame m #[(.ref a), (.long q)] 7)) tt_ := fun tt_ kk_ => pre55 tt_ (by
    show Steps p.tables e below (T54.setTop (mkF m 118 #[.val (.ref a), .val (.long q), .second, .val (.int (4 : Int32)), .val (.int lw), .val (.int (1 : Int32)), .val (.int (32768 : Int32))] [])) _
    refine XS.aloadN X54.here hx rfl (hb hby own_d_prog_35_method_1_code_118) rfl rfl ?_
    refine st56 _ ?_
    refine XS.iload X56.here hx rfl (hb hby own_d_prog_35_method_1_code_122) rfl ?_
    show Steps p.tables e below (T56.setTop (mkF m 124 #[.val (.ref a), .val (.long q), .second, .val (.int (4 : Int32)), .val (.int lw), .val (.int (1 : Int32)), .val (.int (32768 : Int32))] [(.int (1 : Int32)), (.ref b12)])) _
    refine XS.iload X56.here hx rfl (hb hby own_d_prog_35_method_1_code_124) rfl ?_
    refine XS.sipush X56.here hx rfl (hb hby own_d_prog_35_method_1_code_126) ?_
    refine XS.isub X56.here hx rfl (hb hby own_d_prog_35_method_1_code_129) rfl ?_
    show Steps p.tables e below (T56.setTop (mkF m 130 #[.val (.ref a), .val (.long q), .second, .val (.int (4 : Int32)), .val (.int lw), .val (.int (1 : Int32)), .val (.int (32768 : Int32))] [(.int ((32768 : Int32) - (32764 : Int32))), (.int (1 : Int32)), (.ref b12)])) _
    rw [fold57]
    show Steps p.tables e below (T56.setTop (mkF m 130 #[.val (.ref a), .val (.long q), .second, .val (.int (4 : Int32)), .val (.int lw), .val (.int (1 : Int32)), .val (.int (32768 : Int32))] [(.int (4 : Int32)), (.int (1 : Int32)), (.ref b12)])) _
    refine XS.iconst X56.here hx rfl (hb hby own_d_prog_35_method_1_code_130) ?_
    show Steps p.tables e below (T56.setTop (mkF m 131 #[.val (.ref a), .val (.long q), .second, .val (.int (4 : Int32)), .val (.int lw), .val (.int (1 : Int32)), .val (.int (32768 : Int32))] [(.int (0 : Int32)), (.int (4 : Int32)), (.int (1 : Int32)), (.ref b12)])) _
    refine st58 _ ?_
    refine st59 _ ?_
    refine st61 _ ?_
    exact kk_)
  obtain ⟨T63, X63, e63, st63⟩ := getF X61 hx hZ hown (host := "") (Or.inl (hw _ (List.mem_of_getElem? (i := 22) rfl))) Via.refl e61 F61_2 (g := (mkF m 138 #[.val (.ref a), .val (.long q), .second, .val (.int (4 : Int32)), .val (.int lw), .val (.int (1 : Int32)), .val (.int (32768 : Int32))] [(.ref a)])) rfl rfl (hb hby own_d_prog_35_method_1_code_138)
  have fold64 : ((2 : Int32) * (1 : Int32)) = (2 : Int32) := by decide +kernel
  obtain ⟨T65, X65, e65, st65⟩ := getF X63 hx hZ hown (host := "") (Or.inl (hw _ (List.mem_of_getElem? (i := 18) rfl))) Via.refl e63 F61_0 (g := (mkF m 146 #[.val (.ref a), .val (.long q), .second, .val (.int (4 : Int32)), .val (.int lw), .val (.int (1 : Int32)), .val (.int (32768 : Int32))] [(.ref a), (.int (2 : Int32)), (.ref b16)])) rfl rfl (hb hby own_d_prog_35_method_1_code_146)
  obtain ⟨cl66, Ar66, q66, S66, M66, H66, G66⟩ := id V61_0
  have hin66 : ¬ ((1 : Int32) < 0 ∨ cl66.slots.size ≤ ((1 : Int32)).toNatClampNeg) := inb_of S66 ⟨by decide, by decide⟩
  have hat66 : cl66.slots[((1 : Int32)).toNatClampNeg]? = some (.ref b52) := Has.at H66 hin66 rfl
  obtain ⟨cl67, Ar67, q67, S67, M67, H67, G67⟩ := id V61_2
  have hin67 : ¬ ((2 : Int32) < 0 ∨ cl67.slots.size ≤ ((2 : Int32)).toNatClampNeg) := inb_of S67 ⟨by decide, by decide⟩
  obtain ⟨T68, h68, X68, e68, W68, st68⟩ := stR X65 hx hZ e65 Ar67 (j := (2 : Int32)) hin67 rfl (own_stoA Ar67 q67 O16 (Ins.self X61_1)) (g := (mkF m 152 #[.val (.ref a), .val (.long q), .second, .val (.int (4 : Int32)), .val (.int lw), .val (.int (1 : Int32)), .val (.int (32768 : Int32))] [(.ref b52), (.int (2 : Int32)), (.ref b16)])) rfl rfl (hb hby own_d_prog_35_method_1_code_152)
  have V_b16_68 : Arv Z h68 b16 k16 (.array .long) (8 : Int32) [(.ref b22), (.ref b29), (.ref b52), .null, .null, .null, .null, .null] .null := Arv.set Ar67 q67 S67 M67 H67 G67 rfl W68 2 rfl (Nat.le_of_ble_eq_true rfl)
  have F68_0 := F61_0.other W68 (Or.inl ne_a_b16)
  have F68_1 := F61_1.other W68 (Or.inl ne_a_b16)
  have F68_2 := F61_2.other W68 (Or.inl ne_a_b16)
  have X68_0 := X61_0.wr W68
  have X68_1 := X61_1.wr W68
  have X68_2 := X61_2.wr W68
  have S68_0 := S61_0.wr W68
  have V68_0 := V61_0.other W68 ne_b10_b16
  have V68_1 := V_b12_61.other W68 ne_b12_b16
  have V68_3 := V61_3.other W68 (Ne.symm ne_b16_b22)
  have V68_4 := V61_4.other W68 (Ne.symm ne_b16_b29)
  have ne_b16_b52 : b16 ≠ b52 := Nat.ne_of_lt (Nat.lt_of_lt_of_le (V_b16_46).lt (Nat.le_of_eq g52.symm))
  have V68_5 := V61_5.other W68 (Ne.symm ne_b16_b52)
  have ne_b16_b59 : b16 ≠ b59 := Nat.ne_of_lt (Nat.lt_of_lt_of_le (V54_2).lt (Nat.le_of_eq g59.symm))
  have V68_6 := V61_6.other W68 (Ne.symm ne_b16_b59)
  have z68 : n0 ≤ h68.size := by rw [W68.size]; exact z61
  have K68 : Keep h0 h68 [a] := K61.wr W68 (Or.inr sz_b16)
  have N68 := Fr.snoc X68 N61 g_b16
  have pre69 : ∀ tt_, Steps p.tables e below (T68.setTop (mkF m 153 #[.val (.ref a), .val (.long q), .second, .val (.int (4 : Int32)), .val (.int lw), .val (.int (1 : Int32)), .val (.int (32768 : Int32))] [])) tt_ → Steps p.tables e below (s₁.setTop (entryFrame m #[(.ref a), (.long q)] 7)) tt_ := fun tt_ kk_ => pre62 tt_ (by
    show Steps p.tables e below (T61.setTop (mkF m 137 #[.val (.ref a), .val (.long q), .second, .val (.int (4 : Int32)), .val (.int lw), .val (.int (1 : Int32)), .val (.int (32768 : Int32))] [])) _
    refine XS.aloadN X61.here hx rfl (hb hby own_d_prog_35_method_1_code_137) rfl rfl ?_
    refine st63 _ ?_
    refine XS.iconst X63.here hx rfl (hb hby own_d_prog_35_method_1_code_141) ?_
    show Steps p.tables e below (T63.setTop (mkF m 142 #[.val (.ref a), .val (.long q), .second, .val (.int (4 : Int32)), .val (.int lw), .val (.int (1 : Int32)), .val (.int (32768 : Int32))] [(.int (2 : Int32)), (.ref b16)])) _
    refine XS.iload X63.here hx rfl (hb hby own_d_prog_35_method_1_code_142) rfl ?_
    refine XS.imul X63.here hx rfl (hb hby own_d_prog_35_method_1_code_144) rfl ?_
    show Steps p.tables e below (T63.setTop (mkF m 145 #[.val (.ref a), .val (.long q), .second, .val (.int (4 : Int32)), .val (.int lw), .val (.int (1 : Int32)), .val (.int (32768 : Int32))] [(.int ((2 : Int32) * (1 : Int32))), (.ref b16)])) _
    rw [fold64]
    show Steps p.tables e below (T63.setTop (mkF m 145 #[.val (.ref a), .val (.long q), .second, .val (.int (4 : Int32)), .val (.int lw), .val (.int (1 : Int32)), .val (.int (32768 : Int32))] [(.int (2 : Int32)), (.ref b16)])) _
    refine XS.aloadN X63.here hx rfl (hb hby own_d_prog_35_method_1_code_145) rfl rfl ?_
    refine st65 _ ?_
    refine XS.iload X65.here hx rfl (hb hby own_d_prog_35_method_1_code_149) rfl ?_
    refine X65.aaload hx (j := (1 : Int32)) (v := (.ref b52)) (by rw [e65]; exact Ar66.1) (State.isArrayOf_alike hZ.alike Ar66.2.1) rfl Ar66.2.2 hin66 hat66 (g := (mkF m 151 #[.val (.ref a), .val (.long q), .second, .val (.int (4 : Int32)), .val (.int lw), .val (.int (1 : Int32)), .val (.int (32768 : Int32))] [(.int (1 : Int32)), (.ref b10), (.int (2 : Int32)), (.ref b16)])) rfl rfl (hb hby own_d_prog_35_method_1_code_151) _ ?_
    refine st68 _ ?_
    exact kk_)
  obtain ⟨T70, X70, e70, st70⟩ := getF X68 hx hZ hown (host := "") (Or.inl (hw _ (List.mem_of_getElem? (i := 22) rfl))) Via.refl e68 F68_2 (g := (mkF m 162 #[.val (.ref a), .val (.long q), .second, .val (.int (4 : Int32)), .val (.int lw), .val (.int (1 : Int32)), .val (.int (32768 : Int32))] [(.ref a)])) rfl rfl (hb hby own_d_prog_35_method_1_code_162)
  have fold71 : ((2 : Int32) * (1 : Int32)) = (2 : Int32) := by decide +kernel
  have fold72 : ((2 : Int32) + (1 : Int32)) = (3 : Int32) := by decide +kernel
  obtain ⟨T73, X73, e73, st73⟩ := getF X70 hx hZ hown (host := "") (Or.inl (hw _ (List.mem_of_getElem? (i := 20) rfl))) Via.refl e70 F68_1 (g := (mkF m 172 #[.val (.ref a), .val (.long q), .second, .val (.int (4 : Int32)), .val (.int lw), .val (.int (1 : Int32)), .val (.int (32768 : Int32))] [(.ref a), (.int (3 : Int32)), (.ref b16)])) rfl rfl (hb hby own_d_prog_35_method_1_code_172)
  obtain ⟨cl74, Ar74, q74, S74, M74, H74, G74⟩ := id V68_1
  have hin74 : ¬ ((1 : Int32) < 0 ∨ cl74.slots.size ≤ ((1 : Int32)).toNatClampNeg) := inb_of S74 ⟨by decide, by decide⟩
  have hat74 : cl74.slots[((1 : Int32)).toNatClampNeg]? = some (.ref b59) := Has.at H74 hin74 rfl
  obtain ⟨cl75, Ar75, q75, S75, M75, H75, G75⟩ := id V_b16_68
  have hin75 : ¬ ((3 : Int32) < 0 ∨ cl75.slots.size ≤ ((3 : Int32)).toNatClampNeg) := inb_of S75 ⟨by decide, by decide⟩
  obtain ⟨T76, h76, X76, e76, W76, st76⟩ := stR X73 hx hZ e73 Ar75 (j := (3 : Int32)) hin75 rfl (own_stoA Ar75 q75 O16 (Ins.self X68_2)) (g := (mkF m 178 #[.val (.ref a), .val (.long q), .second, .val (.int (4 : Int32)), .val (.int lw), .val (.int (1 : Int32)), .val (.int (32768 : Int32))] [(.ref b59), (.int (3 : Int32)), (.ref b16)])) rfl rfl (hb hby own_d_prog_35_method_1_code_178)
  have V_b16_76 : Arv Z h76 b16 k16 (.array .long) (8 : Int32) [(.ref b22), (.ref b29), (.ref b52), (.ref b59), .null, .null, .null, .null] .null := Arv.set Ar75 q75 S75 M75 H75 G75 rfl W76 3 rfl (Nat.le_of_ble_eq_true rfl)
  have F76_0 := F68_0.other W76 (Or.inl ne_a_b16)
  have F76_1 := F68_1.other W76 (Or.inl ne_a_b16)
  have F76_2 := F68_2.other W76 (Or.inl ne_a_b16)
  have X76_0 := X68_0.wr W76
  have X76_1 := X68_1.wr W76
  have X76_2 := X68_2.wr W76
  have S76_0 := S68_0.wr W76
  have V76_0 := V68_0.other W76 ne_b10_b16
  have V76_1 := V68_1.other W76 ne_b12_b16
  have V76_3 := V68_3.other W76 (Ne.symm ne_b16_b22)
  have V76_4 := V68_4.other W76 (Ne.symm ne_b16_b29)
  have V76_5 := V68_5.other W76 (Ne.symm ne_b16_b52)
  have V76_6 := V68_6.other W76 (Ne.symm ne_b16_b59)
  have z76 : n0 ≤ h76.size := by rw [W76.size]; exact z68
  have K76 : Keep h0 h76 [a] := K68.wr W76 (Or.inr sz_b16)
  have N76 := Fr.snoc X76 N68 g_b16
  have fold77 : ((1 : Int32) + (1 : Int32)) = (2 : Int32) := by decide +kernel
  have pre78 : ∀ tt_, Steps p.tables e below (T76.setTop (mkF m 78 #[.val (.ref a), .val (.long q), .second, .val (.int (4 : Int32)), .val (.int lw), .val (.int (2 : Int32)), .val (.int (32768 : Int32))] [])) tt_ → Steps p.tables e below (s₁.setTop (entryFrame m #[(.ref a), (.long q)] 7)) tt_ := fun tt_ kk_ => pre69 tt_ (by
    show Steps p.tables e below (T68.setTop (mkF m 153 #[.val (.ref a), .val (.long q), .second, .val (.int (4 : Int32)), .val (.int lw), .val (.int (1 : Int32)), .val (.int (32768 : Int32))] [])) _
    refine XS.iload X68.here hx rfl (hb hby own_d_prog_35_method_1_code_153) rfl ?_
    show Steps p.tables e below (T68.setTop (mkF m 155 #[.val (.ref a), .val (.long q), .second, .val (.int (4 : Int32)), .val (.int lw), .val (.int (1 : Int32)), .val (.int (32768 : Int32))] [(.int (32768 : Int32))])) _
    refine XS.sipush X68.here hx rfl (hb hby own_d_prog_35_method_1_code_155) ?_
    refine XS.icmpNo X68.here hx rfl (hb hby own_d_prog_35_method_1_code_158) rfl (tlt ((by decide) : (32764 : Int32) < (32768 : Int32))).2.2.2 ?_
    refine XS.aloadN X68.here hx rfl (hb hby own_d_prog_35_method_1_code_161) rfl rfl ?_
    refine st70 _ ?_
    refine XS.iconst X70.here hx rfl (hb hby own_d_prog_35_method_1_code_165) ?_
    refine XS.iload X70.here hx rfl (hb hby own_d_prog_35_method_1_code_166) rfl ?_
    refine XS.imul X70.here hx rfl (hb hby own_d_prog_35_method_1_code_168) rfl ?_
    show Steps p.tables e below (T70.setTop (mkF m 169 #[.val (.ref a), .val (.long q), .second, .val (.int (4 : Int32)), .val (.int lw), .val (.int (1 : Int32)), .val (.int (32768 : Int32))] [(.int ((2 : Int32) * (1 : Int32))), (.ref b16)])) _
    rw [fold71]
    show Steps p.tables e below (T70.setTop (mkF m 169 #[.val (.ref a), .val (.long q), .second, .val (.int (4 : Int32)), .val (.int lw), .val (.int (1 : Int32)), .val (.int (32768 : Int32))] [(.int (2 : Int32)), (.ref b16)])) _
    refine XS.iconst X70.here hx rfl (hb hby own_d_prog_35_method_1_code_169) ?_
    refine XS.iadd X70.here hx rfl (hb hby own_d_prog_35_method_1_code_170) rfl ?_
    show Steps p.tables e below (T70.setTop (mkF m 171 #[.val (.ref a), .val (.long q), .second, .val (.int (4 : Int32)), .val (.int lw), .val (.int (1 : Int32)), .val (.int (32768 : Int32))] [(.int ((2 : Int32) + (1 : Int32))), (.ref b16)])) _
    rw [fold72]
    show Steps p.tables e below (T70.setTop (mkF m 171 #[.val (.ref a), .val (.long q), .second, .val (.int (4 : Int32)), .val (.int lw), .val (.int (1 : Int32)), .val (.int (32768 : Int32))] [(.int (3 : Int32)), (.ref b16)])) _
    refine XS.aloadN X70.here hx rfl (hb hby own_d_prog_35_method_1_code_171) rfl rfl ?_
    refine st73 _ ?_
    refine XS.iload X73.here hx rfl (hb hby own_d_prog_35_method_1_code_175) rfl ?_
    refine X73.aaload hx (j := (1 : Int32)) (v := (.ref b59)) (by rw [e73]; exact Ar74.1) (State.isArrayOf_alike hZ.alike Ar74.2.1) rfl Ar74.2.2 hin74 hat74 (g := (mkF m 177 #[.val (.ref a), .val (.long q), .second, .val (.int (4 : Int32)), .val (.int lw), .val (.int (1 : Int32)), .val (.int (32768 : Int32))] [(.int (1 : Int32)), (.ref b12), (.int (3 : Int32)), (.ref b16)])) rfl rfl (hb hby own_d_prog_35_method_1_code_177) _ ?_
    refine st76 _ ?_
    refine XS.iinc X76.here hx rfl (hb hby own_d_prog_35_method_1_code_179) rfl (l' := #[.val (.ref a), .val (.long q), .second, .val (.int (4 : Int32)), .val (.int lw), .val (.int ((1 : Int32) + (1 : Int32))), .val (.int (32768 : Int32))]) rfl ?_
    show Steps p.tables e below (T76.setTop (mkF m 182 #[.val (.ref a), .val (.long q), .second, .val (.int (4 : Int32)), .val (.int lw), .val (.int ((1 : Int32) + (1 : Int32))), .val (.int (32768 : Int32))] [])) _
    rw [fold77]
    show Steps p.tables e below (T76.setTop (mkF m 182 #[.val (.ref a), .val (.long q), .second, .val (.int (4 : Int32)), .val (.int lw), .val (.int (2 : Int32)), .val (.int (32768 : Int32))] [])) _
    refine XS.goto X76.here hx rfl (pc0 := 182) (pc' := 78) rfl (hb hby own_d_prog_35_method_1_code_182) (by decide) (by decide) ?_
    exact kk_)
  have fold79 : ((4 : Int32) - (1 : Int32)) = (3 : Int32) := by decide +kernel
  obtain ⟨T80, X80, e80, st80⟩ := getF X76 hx hZ hown (host := "") (Or.inl (hw _ (List.mem_of_getElem? (i := 18) rfl))) Via.refl e76 F76_0 (g := (mkF m 102 #[.val (.ref a), .val (.long q), .second, .val (.int (4 : Int32)), .val (.int lw), .val (.int (2 : Int32)), .val (.int (32768 : Int32))] [(.ref a)])) rfl rfl (hb hby own_d_prog_35_method_1_code_102)
  obtain ⟨_, _, ⟨T81, L81, k81, n81⟩, -, X81, ⟨Lc81, hQ81, l81, y81, z81⟩, st81⟩ := Jvm.LawKit.callS X80 hx (y := (⟨"java/lang/Math", "min", "(II)I"⟩ : MethodName)) hown (mvT hZ (hw _ (List.mem_of_getElem? (i := 24) rfl))) (mvT hZ (hw _ (List.mem_of_getElem? (i := 25) rfl))) (mvT hZ (hw _ (List.mem_of_getElem? (i := 26) rfl))) (mvT hZ (hw _ (List.mem_of_getElem? (i := 27) rfl))) (by decide) (backOf (W := 2) (rmMin l Z a0 hw [] (32768 : Int32) (32764 : Int32) (32764 : Int32) h76 n0 z76 (by decide)) hZ (hw _ (List.mem_of_getElem? (i := 27) rfl)) (hw _ (List.mem_of_getElem? (i := 26) rfl)) (by decide) (by decide)) (g := (mkF m 112 #[.val (.ref a), .val (.long q), .second, .val (.int (4 : Int32)), .val (.int lw), .val (.int (2 : Int32)), .val (.int (32768 : Int32))] [(.int (32764 : Int32)), (.int (32768 : Int32)), (.int (2 : Int32)), (.ref b10)])) rfl (by rw [hml]; rfl) (argsL := [(.int (32768 : Int32)), (.int (32764 : Int32))]) (rest := [(.int (2 : Int32)), (.ref b10)]) (lenOf own_pd0 rfl) rfl (by show 2 * 0 + _ ≤ _; exact Nat.le_of_eq rfl) (hb hby own_d_prog_35_method_1_code_112) (fun _ _ => ⟨rfl, e80, (by decide : 7 + 0 ≤ _), (by decide : 65552 + 0 ≤ _)⟩)
  dsimp only [Pt.U, Pt.locs, Pt.cells, Pt.slots] at X81 l81 y81 z81 st81 hQ81
  replace l81 := l81.symm; subst l81 y81 z81
  obtain ⟨rfl, N81q, e81⟩ := hQ81
  have N81 := Fr.app N76 N81q
  obtain ⟨T82, h82, k82, X82, e82, E82, A82, Ea82, st82⟩ := newPE X81 hx hZ (hw _ (List.mem_of_getElem? (i := 28) rfl)) e81 (g := (mkF m 115 #[.val (.ref a), .val (.long q), .second, .val (.int (4 : Int32)), .val (.int lw), .val (.int (2 : Int32)), .val (.int (32768 : Int32))] [(.int (32764 : Int32)), (.int (2 : Int32)), (.ref b10)])) rfl (hb hby own_d_prog_35_method_1_code_115) rfl (by decide) (cap := 32764) (by decide) (by decide) (by decide) (by decide) (ad := "[J") (by decide +kernel)
  obtain ⟨b82, g82⟩ : ∃ z, z = h76.size := ⟨_, rfl⟩
  rw [← g82] at A82 st82 Ea82
  have g_b82 : n0 ≤ b82 := Nat.le_trans z76 (Nat.le_of_eq g82.symm)
  have sz_b82 : h0.size ≤ b82 := Nat.le_trans K76.1 (Nat.le_of_eq g82.symm)
  have F82_0 := F76_0.ext E82
  have F82_1 := F76_1.ext E82
  have F82_2 := F76_2.ext E82
  have X82_0 := X76_0.ext E82
  have S82_0 := S76_0.ext E82
  have V82_0 := V76_0.ext E82
  have V82_1 := V76_1.ext E82
  have V82_2 := V_b16_76.ext E82
  have V82_3 := V76_3.ext E82
  have V82_4 := V76_4.ext E82
  have V82_5 := V76_5.ext E82
  have V82_6 := V76_6.ext E82
  have z82 : n0 ≤ h82.size := Nat.le_trans z76 E82.1
  have K82 : Keep h0 h82 [a] := K76.ext E82
  have V_b82 : Arv Z h82 b82 k82 .long (32764 : Int32) [] (.long (0 : Int64)) := (Arv.new A82 (by decide)).pad (pad_rep [] (.long (0 : Int64)) 0)
  obtain ⟨cl83, Ar83, q83, S83, M83, H83, G83⟩ := id V82_0
  have hin83 : ¬ ((2 : Int32) < 0 ∨ cl83.slots.size ≤ ((2 : Int32)).toNatClampNeg) := inb_of S83 ⟨by decide, by decide⟩
  obtain ⟨T84, h84, X84, e84, W84, st84⟩ := stR X82 hx hZ e82 Ar83 (j := (2 : Int32)) hin83 rfl (own_stoA Ar83 q83 O10 (Ins.self Ea82)) (g := (mkF m 117 #[.val (.ref a), .val (.long q), .second, .val (.int (4 : Int32)), .val (.int lw), .val (.int (2 : Int32)), .val (.int (32768 : Int32))] [(.ref b82), (.int (2 : Int32)), (.ref b10)])) rfl rfl (hb hby own_d_prog_35_method_1_code_117)
  have V_b10_84 : Arv Z h84 b10 k10 (.array .long) (4 : Int32) [(.ref b22), (.ref b52), (.ref b82), .null] .null := Arv.set Ar83 q83 S83 M83 H83 G83 rfl W84 2 rfl (Nat.le_of_ble_eq_true rfl)
  have F84_0 := F82_0.other W84 (Or.inl ne_a_b10)
  have F84_1 := F82_1.other W84 (Or.inl ne_a_b10)
  have F84_2 := F82_2.other W84 (Or.inl ne_a_b10)
  have X84_0 := X82_0.wr W84
  have X84_1 := Ea82.wr W84
  have S84_0 := S82_0.wr W84
  have V84_1 := V82_1.other W84 (Ne.symm ne_b10_b12)
  have V84_2 := V82_2.other W84 (Ne.symm ne_b10_b16)
  have V84_3 := V82_3.other W84 (Ne.symm ne_b10_b22)
  have V84_4 := V82_4.other W84 (Ne.symm ne_b10_b29)
  have V84_5 := V82_5.other W84 (Ne.symm ne_b10_b52)
  have ne_b10_b59 : b10 ≠ b59 := Nat.ne_of_lt (Nat.lt_of_lt_of_le (V_b10_54).lt (Nat.le_of_eq g59.symm))
  have V84_6 := V82_6.other W84 (Ne.symm ne_b10_b59)
  have ne_b10_b82 : b10 ≠ b82 := Nat.ne_of_lt (Nat.lt_of_lt_of_le (V76_0).lt (Nat.le_of_eq g82.symm))
  have V84_7 := V_b82.other W84 (Ne.symm ne_b10_b82)
  have z84 : n0 ≤ h84.size := by rw [W84.size]; exact z82
  have K84 : Keep h0 h84 [a] := K82.wr W84 (Or.inr sz_b10)
  have N84 := Fr.snoc X84 N81 g_b10
  have pre85 : ∀ tt_, Steps p.tables e below (T84.setTop (mkF m 118 #[.val (.ref a), .val (.long q), .second, .val (.int (4 : Int32)), .val (.int lw), .val (.int (2 : Int32)), .val (.int (32768 : Int32))] [])) tt_ → Steps p.tables e below (s₁.setTop (entryFrame m #[(.ref a), (.long q)] 7)) tt_ := fun tt_ kk_ => pre78 tt_ (by
    show Steps p.tables e below (T76.setTop (mkF m 78 #[.val (.ref a), .val (.long q), .second, .val (.int (4 : Int32)), .val (.int lw), .val (.int (2 : Int32)), .val (.int (32768 : Int32))] [])) _
    refine XS.iload X76.here hx rfl (hb hby own_d_prog_35_method_1_code_78) rfl ?_
    refine XS.iloadN X76.here hx rfl (hb hby own_d_prog_35_method_1_code_80) rfl ?_
    refine XS.icmpNo X76.here hx rfl (hb hby own_d_prog_35_method_1_code_81) rfl (tlt ((by decide) : (2 : Int32) < (4 : Int32))).2.1 ?_
    refine XS.iload X76.here hx rfl (hb hby own_d_prog_35_method_1_code_84) rfl ?_
    refine XS.iloadN X76.here hx rfl (hb hby own_d_prog_35_method_1_code_86) rfl ?_
    show Steps p.tables e below (T76.setTop (mkF m 87 #[.val (.ref a), .val (.long q), .second, .val (.int (4 : Int32)), .val (.int lw), .val (.int (2 : Int32)), .val (.int (32768 : Int32))] [(.int (4 : Int32)), (.int (2 : Int32))])) _
    refine XS.iconst X76.here hx rfl (hb hby own_d_prog_35_method_1_code_87) ?_
    refine XS.isub X76.here hx rfl (hb hby own_d_prog_35_method_1_code_88) rfl ?_
    show Steps p.tables e below (T76.setTop (mkF m 89 #[.val (.ref a), .val (.long q), .second, .val (.int (4 : Int32)), .val (.int lw), .val (.int (2 : Int32)), .val (.int (32768 : Int32))] [(.int ((4 : Int32) - (1 : Int32))), (.int (2 : Int32))])) _
    rw [fold79]
    show Steps p.tables e below (T76.setTop (mkF m 89 #[.val (.ref a), .val (.long q), .second, .val (.int (4 : Int32)), .val (.int lw), .val (.int (2 : Int32)), .val (.int (32768 : Int32))] [(.int (3 : Int32)), (.int (2 : Int32))])) _
    refine XS.icmpNo X76.here hx rfl (hb hby own_d_prog_35_method_1_code_89) rfl (tlt ((by decide) : (2 : Int32) < (3 : Int32))).2.1 ?_
    refine X76.ldcInt hx hown (mvT hZ (hw _ (List.mem_of_getElem? (i := 52) rfl))) (g := (mkF m 92 #[.val (.ref a), .val (.long q), .second, .val (.int (4 : Int32)), .val (.int lw), .val (.int (2 : Int32)), .val (.int (32768 : Int32))] [])) rfl (hb hby own_d_prog_35_method_1_code_92) _ ?_
    refine XS.goto X76.here hx rfl (pc0 := 94) (pc' := 99) rfl (hb hby own_d_prog_35_method_1_code_94) (by decide) (by decide) ?_
    refine XS.istore X76.here hx rfl (hb hby own_d_prog_35_method_1_code_99) rfl (l' := #[.val (.ref a), .val (.long q), .second, .val (.int (4 : Int32)), .val (.int lw), .val (.int (2 : Int32)), .val (.int (32768 : Int32))]) rfl ?_
    show Steps p.tables e below (T76.setTop (mkF m 101 #[.val (.ref a), .val (.long q), .second, .val (.int (4 : Int32)), .val (.int lw), .val (.int (2 : Int32)), .val (.int (32768 : Int32))] [])) _
    refine XS.aloadN X76.here hx rfl (hb hby own_d_prog_35_method_1_code_101) rfl rfl ?_
    refine st80 _ ?_
    refine XS.iload X80.here hx rfl (hb hby own_d_prog_35_method_1_code_105) rfl ?_
    refine XS.iload X80.here hx rfl (hb hby own_d_prog_35_method_1_code_107) rfl ?_
    refine XS.sipush X80.here hx rfl (hb hby own_d_prog_35_method_1_code_109) ?_
    show Steps p.tables e below (T80.setTop (mkF m 112 #[.val (.ref a), .val (.long q), .second, .val (.int (4 : Int32)), .val (.int lw), .val (.int (2 : Int32)), .val (.int (32768 : Int32))] [(.int (32764 : Int32)), (.int (32768 : Int32)), (.int (2 : Int32)), (.ref b10)])) _
    refine st81 _ ?_
    refine st82 _ ?_
    refine st84 _ ?_
    exact kk_)
  obtain ⟨T86, X86, e86, st86⟩ := getF X84 hx hZ hown (host := "") (Or.inl (hw _ (List.mem_of_getElem? (i := 20) rfl))) Via.refl e84 F84_1 (g := (mkF m 119 #[.val (.ref a), .val (.long q), .second, .val (.int (4 : Int32)), .val (.int lw), .val (.int (2 : Int32)), .val (.int (32768 : Int32))] [(.ref a)])) rfl rfl (hb hby own_d_prog_35_method_1_code_119)
  have fold87 : ((32768 : Int32) - (32764 : Int32)) = (4 : Int32) := by decide +kernel
  obtain ⟨_, _, ⟨T88, L88, k88, n88⟩, -, X88, ⟨Lc88, hQ88, l88, y88, z88⟩, st88⟩ := Jvm.LawKit.callS X86 hx (y := (⟨"java/lang/Math", "max", "(II)I"⟩ : MethodName)) hown (mvT hZ (hw _ (List.mem_of_getElem? (i := 30) rfl))) (mvT hZ (hw _ (List.mem_of_getElem? (i := 31) rfl))) (mvT hZ (hw _ (List.mem_of_getElem? (i := 26) rfl))) (mvT hZ (hw _ (List.mem_of_getElem? (i := 32) rfl))) (by decide) (backOf (W := 2) (rmMax l Z a0 hw [] (4 : Int32) (0 : Int32) (4 : Int32) h84 n0 z84 (by decide)) hZ (hw _ (List.mem_of_getElem? (i := 32) rfl)) (hw _ (List.mem_of_getElem? (i := 26) rfl)) (by decide) (by decide)) (g := (mkF m 131 #[.val (.ref a), .val (.long q), .second, .val (.int (4 : Int32)), .val (.int lw), .val (.int (2 : Int32)), .val (.int (32768 : Int32))] [(.int (0 : Int32)), (.int (4 : Int32)), (.int (2 : Int32)), (.ref b12)])) rfl (by rw [hml]; rfl) (argsL := [(.int (4 : Int32)), (.int (0 : Int32))]) (rest := [(.int (2 : Int32)), (.ref b12)]) (lenOf own_pd0 rfl) rfl (by show 2 * 0 + _ ≤ _; exact Nat.le_of_eq rfl) (hb hby own_d_prog_35_method_1_code_131) (fun _ _ => ⟨rfl, e86, (by decide : 8 + 0 ≤ _), (by decide : 98316 + 0 ≤ _)⟩)
  dsimp only [Pt.U, Pt.locs, Pt.cells, Pt.slots] at X88 l88 y88 z88 st88 hQ88
  replace l88 := l88.symm; subst l88 y88 z88
  obtain ⟨rfl, N88q, e88⟩ := hQ88
  have N88 := Fr.app N84 N88q
  obtain ⟨T89, h89, k89, X89, e89, E89, A89, Ea89, st89⟩ := newPE X88 hx hZ (hw _ (List.mem_of_getElem? (i := 28) rfl)) e88 (g := (mkF m 134 #[.val (.ref a), .val (.long q), .second, .val (.int (4 : Int32)), .val (.int lw), .val (.int (2 : Int32)), .val (.int (32768 : Int32))] [(.int (4 : Int32)), (.int (2 : Int32)), (.ref b12)])) rfl (hb hby own_d_prog_35_method_1_code_134) rfl (by decide) (cap := 4) (by decide) (by decide) (by decide) (by decide) (ad := "[J") (by decide +kernel)
  obtain ⟨b89, g89⟩ : ∃ z, z = h84.size := ⟨_, rfl⟩
  rw [← g89] at A89 st89 Ea89
  have g_b89 : n0 ≤ b89 := Nat.le_trans z84 (Nat.le_of_eq g89.symm)
  have sz_b89 : h0.size ≤ b89 := Nat.le_trans K84.1 (Nat.le_of_eq g89.symm)
  have F89_0 := F84_0.ext E89
  have F89_1 := F84_1.ext E89
  have F89_2 := F84_2.ext E89
  have X89_0 := X84_0.ext E89
  have X89_1 := X84_1.ext E89
  have S89_0 := S84_0.ext E89
  have V89_0 := V_b10_84.ext E89
  have V89_1 := V84_1.ext E89
  have V89_2 := V84_2.ext E89
  have V89_3 := V84_3.ext E89
  have V89_4 := V84_4.ext E89
  have V89_5 := V84_5.ext E89
  have V89_6 := V84_6.ext E89
  have V89_7 := V84_7.ext E89
  have z89 : n0 ≤ h89.size := Nat.le_trans z84 E89.1
  have K89 : Keep h0 h89 [a] := K84.ext E89
  have V_b89 : Arv Z h89 b89 k89 .long (4 : Int32) [] (.long (0 : Int64)) := (Arv.new A89 (by decide)).pad (pad_rep [] (.long (0 : Int64)) 0)
  obtain ⟨cl90, Ar90, q90, S90, M90, H90, G90⟩ := id V89_1
  have hin90 : ¬ ((2 : Int32) < 0 ∨ cl90.slots.size ≤ ((2 : Int32)).toNatClampNeg) := inb_of S90 ⟨by decide, by decide⟩
  obtain ⟨T91, h91, X91, e91, W91, st91⟩ := stR X89 hx hZ e89 Ar90 (j := (2 : Int32)) hin90 rfl (own_stoA Ar90 q90 O12 (Ins.self Ea89)) (g := (mkF m 136 #[.val (.ref a), .val (.long q), .second, .val (.int (4 : Int32)), .val (.int lw), .val (.int (2 : Int32)), .val (.int (32768 : Int32))] [(.ref b89), (.int (2 : Int32)), (.ref b12)])) rfl rfl (hb hby own_d_prog_35_method_1_code_136)
  have V_b12_91 : Arv Z h91 b12 k12 (.array .long) (4 : Int32) [(.ref b29), (.ref b59), (.ref b89), .null] .null := Arv.set Ar90 q90 S90 M90 H90 G90 rfl W91 2 rfl (Nat.le_of_ble_eq_true rfl)
  have F91_0 := F89_0.other W91 (Or.inl ne_a_b12)
  have F91_1 := F89_1.other W91 (Or.inl ne_a_b12)
  have F91_2 := F89_2.other W91 (Or.inl ne_a_b12)
  have X91_0 := X89_0.wr W91
  have X91_1 := X89_1.wr W91
  have X91_2 := Ea89.wr W91
  have S91_0 := S89_0.wr W91
  have V91_0 := V89_0.other W91 ne_b10_b12
  have V91_2 := V89_2.other W91 (Ne.symm ne_b12_b16)
  have V91_3 := V89_3.other W91 (Ne.symm ne_b12_b22)
  have V91_4 := V89_4.other W91 (Ne.symm ne_b12_b29)
  have V91_5 := V89_5.other W91 (Ne.symm ne_b12_b52)
  have V91_6 := V89_6.other W91 (Ne.symm ne_b12_b59)
  have ne_b12_b82 : b12 ≠ b82 := Nat.ne_of_lt (Nat.lt_of_lt_of_le (V76_1).lt (Nat.le_of_eq g82.symm))
  have V91_7 := V89_7.other W91 (Ne.symm ne_b12_b82)
  have ne_b12_b89 : b12 ≠ b89 := Nat.ne_of_lt (Nat.lt_of_lt_of_le (V84_1).lt (Nat.le_of_eq g89.symm))
  have V91_8 := V_b89.other W91 (Ne.symm ne_b12_b89)
  have z91 : n0 ≤ h91.size := by rw [W91.size]; exact z89
  have K91 : Keep h0 h91 [a] := K89.wr W91 (Or.inr sz_b12)
  have N91 := Fr.snoc X91 N88 g_b12
  have pre92 : ∀ tt_, Steps p.tables e below (T91.setTop (mkF m 137 #[.val (.ref a), .val (.long q), .second, .val (.int (4 : Int32)), .val (.int lw), .val (.int (2 : Int32)), .val (.int (32768 : Int32))] [])) tt_ → Steps p.tables e below (s₁.setTop (entryFrame m #[(.ref a), (.long q)] 7)) tt_ := fun tt_ kk_ => pre85 tt_ (by
    show Steps p.tables e below (T84.setTop (mkF m 118 #[.val (.ref a), .val (.long q), .second, .val (.int (4 : Int32)), .val (.int lw), .val (.int (2 : Int32)), .val (.int (32768 : Int32))] [])) _
    refine XS.aloadN X84.here hx rfl (hb hby own_d_prog_35_method_1_code_118) rfl rfl ?_
    refine st86 _ ?_
    refine XS.iload X86.here hx rfl (hb hby own_d_prog_35_method_1_code_122) rfl ?_
    show Steps p.tables e below (T86.setTop (mkF m 124 #[.val (.ref a), .val (.long q), .second, .val (.int (4 : Int32)), .val (.int lw), .val (.int (2 : Int32)), .val (.int (32768 : Int32))] [(.int (2 : Int32)), (.ref b12)])) _
    refine XS.iload X86.here hx rfl (hb hby own_d_prog_35_method_1_code_124) rfl ?_
    refine XS.sipush X86.here hx rfl (hb hby own_d_prog_35_method_1_code_126) ?_
    refine XS.isub X86.here hx rfl (hb hby own_d_prog_35_method_1_code_129) rfl ?_
    show Steps p.tables e below (T86.setTop (mkF m 130 #[.val (.ref a), .val (.long q), .second, .val (.int (4 : Int32)), .val (.int lw), .val (.int (2 : Int32)), .val (.int (32768 : Int32))] [(.int ((32768 : Int32) - (32764 : Int32))), (.int (2 : Int32)), (.ref b12)])) _
    rw [fold87]
    show Steps p.tables e below (T86.setTop (mkF m 130 #[.val (.ref a), .val (.long q), .second, .val (.int (4 : Int32)), .val (.int lw), .val (.int (2 : Int32)), .val (.int (32768 : Int32))] [(.int (4 : Int32)), (.int (2 : Int32)), (.ref b12)])) _
    refine XS.iconst X86.here hx rfl (hb hby own_d_prog_35_method_1_code_130) ?_
    show Steps p.tables e below (T86.setTop (mkF m 131 #[.val (.ref a), .val (.long q), .second, .val (.int (4 : Int32)), .val (.int lw), .val (.int (2 : Int32)), .val (.int (32768 : Int32))] [(.int (0 : Int32)), (.int (4 : Int32)), (.int (2 : Int32)), (.ref b12)])) _
    refine st88 _ ?_
    refine st89 _ ?_
    refine st91 _ ?_
    exact kk_)
  obtain ⟨T93, X93, e93, st93⟩ := getF X91 hx hZ hown (host := "") (Or.inl (hw _ (List.mem_of_getElem? (i := 22) rfl))) Via.refl e91 F91_2 (g := (mkF m 138 #[.val (.ref a), .val (.long q), .second, .val (.int (4 : Int32)), .val (.int lw), .val (.int (2 : Int32)), .val (.int (32768 : Int32))] [(.ref a)])) rfl rfl (hb hby own_d_prog_35_method_1_code_138)
  have fold94 : ((2 : Int32) * (2 : Int32)) = (4 : Int32) := by decide +kernel
  obtain ⟨T95, X95, e95, st95⟩ := getF X93 hx hZ hown (host := "") (Or.inl (hw _ (List.mem_of_getElem? (i := 18) rfl))) Via.refl e93 F91_0 (g := (mkF m 146 #[.val (.ref a), .val (.long q), .second, .val (.int (4 : Int32)), .val (.int lw), .val (.int (2 : Int32)), .val (.int (32768 : Int32))] [(.ref a), (.int (4 : Int32)), (.ref b16)])) rfl rfl (hb hby own_d_prog_35_method_1_code_146)
  obtain ⟨cl96, Ar96, q96, S96, M96, H96, G96⟩ := id V91_0
  have hin96 : ¬ ((2 : Int32) < 0 ∨ cl96.slots.size ≤ ((2 : Int32)).toNatClampNeg) := inb_of S96 ⟨by decide, by decide⟩
  have hat96 : cl96.slots[((2 : Int32)).toNatClampNeg]? = some (.ref b82) := Has.at H96 hin96 rfl
  obtain ⟨cl97, Ar97, q97, S97, M97, H97, G97⟩ := id V91_2
  have hin97 : ¬ ((4 : Int32) < 0 ∨ cl97.slots.size ≤ ((4 : Int32)).toNatClampNeg) := inb_of S97 ⟨by decide, by decide⟩
  obtain ⟨T98, h98, X98, e98, W98, st98⟩ := stR X95 hx hZ e95 Ar97 (j := (4 : Int32)) hin97 rfl (own_stoA Ar97 q97 O16 (Ins.self X91_1)) (g := (mkF m 152 #[.val (.ref a), .val (.long q), .second, .val (.int (4 : Int32)), .val (.int lw), .val (.int (2 : Int32)), .val (.int (32768 : Int32))] [(.ref b82), (.int (4 : Int32)), (.ref b16)])) rfl rfl (hb hby own_d_prog_35_method_1_code_152)
  have V_b16_98 : Arv Z h98 b16 k16 (.array .long) (8 : Int32) [(.ref b22), (.ref b29), (.ref b52), (.ref b59), (.ref b82), .null, .null, .null] .null := Arv.set Ar97 q97 S97 M97 H97 G97 rfl W98 4 rfl (Nat.le_of_ble_eq_true rfl)
  have F98_0 := F91_0.other W98 (Or.inl ne_a_b16)
  have F98_1 := F91_1.other W98 (Or.inl ne_a_b16)
  have F98_2 := F91_2.other W98 (Or.inl ne_a_b16)
  have X98_0 := X91_0.wr W98
  have X98_1 := X91_1.wr W98
  have X98_2 := X91_2.wr W98
  have S98_0 := S91_0.wr W98
  have V98_0 := V91_0.other W98 ne_b10_b16
  have V98_1 := V_b12_91.other W98 ne_b12_b16
  have V98_3 := V91_3.other W98 (Ne.symm ne_b16_b22)
  have V98_4 := V91_4.other W98 (Ne.symm ne_b16_b29)
  have V98_5 := V91_5.other W98 (Ne.symm ne_b16_b52)
  have V98_6 := V91_6.other W98 (Ne.symm ne_b16_b59)
  have ne_b16_b82 : b16 ≠ b82 := Nat.ne_of_lt (Nat.lt_of_lt_of_le (V_b16_76).lt (Nat.le_of_eq g82.symm))
  have V98_7 := V91_7.other W98 (Ne.symm ne_b16_b82)
  have ne_b16_b89 : b16 ≠ b89 := Nat.ne_of_lt (Nat.lt_of_lt_of_le (V84_2).lt (Nat.le_of_eq g89.symm))
  have V98_8 := V91_8.other W98 (Ne.symm ne_b16_b89)
  have z98 : n0 ≤ h98.size := by rw [W98.size]; exact z91
  have K98 : Keep h0 h98 [a] := K91.wr W98 (Or.inr sz_b16)
  have N98 := Fr.snoc X98 N91 g_b16
  have pre99 : ∀ tt_, Steps p.tables e below (T98.setTop (mkF m 153 #[.val (.ref a), .val (.long q), .second, .val (.int (4 : Int32)), .val (.int lw), .val (.int (2 : Int32)), .val (.int (32768 : Int32))] [])) tt_ → Steps p.tables e below (s₁.setTop (entryFrame m #[(.ref a), (.long q)] 7)) tt_ := fun tt_ kk_ => pre92 tt_ (by
    show Steps p.tables e below (T91.setTop (mkF m 137 #[.val (.ref a), .val (.long q), .second, .val (.int (4 : Int32)), .val (.int lw), .val (.int (2 : Int32)), .val (.int (32768 : Int32))] [])) _
    refine XS.aloadN X91.here hx rfl (hb hby own_d_prog_35_method_1_code_137) rfl rfl ?_
    refine st93 _ ?_
    refine XS.iconst X93.here hx rfl (hb hby own_d_prog_35_method_1_code_141) ?_
    show Steps p.tables e below (T93.setTop (mkF m 142 #[.val (.ref a), .val (.long q), .second, .val (.int (4 : Int32)), .val (.int lw), .val (.int (2 : Int32)), .val (.int (32768 : Int32))] [(.int (2 : Int32)), (.ref b16)])) _
    refine XS.iload X93.here hx rfl (hb hby own_d_prog_35_method_1_code_142) rfl ?_
    refine XS.imul X93.here hx rfl (hb hby own_d_prog_35_method_1_code_144) rfl ?_
    show Steps p.tables e below (T93.setTop (mkF m 145 #[.val (.ref a), .val (.long q), .second, .val (.int (4 : Int32)), .val (.int lw), .val (.int (2 : Int32)), .val (.int (32768 : Int32))] [(.int ((2 : Int32) * (2 : Int32))), (.ref b16)])) _
    rw [fold94]
    show Steps p.tables e below (T93.setTop (mkF m 145 #[.val (.ref a), .val (.long q), .second, .val (.int (4 : Int32)), .val (.int lw), .val (.int (2 : Int32)), .val (.int (32768 : Int32))] [(.int (4 : Int32)), (.ref b16)])) _
    refine XS.aloadN X93.here hx rfl (hb hby own_d_prog_35_method_1_code_145) rfl rfl ?_
    refine st95 _ ?_
    refine XS.iload X95.here hx rfl (hb hby own_d_prog_35_method_1_code_149) rfl ?_
    refine X95.aaload hx (j := (2 : Int32)) (v := (.ref b82)) (by rw [e95]; exact Ar96.1) (State.isArrayOf_alike hZ.alike Ar96.2.1) rfl Ar96.2.2 hin96 hat96 (g := (mkF m 151 #[.val (.ref a), .val (.long q), .second, .val (.int (4 : Int32)), .val (.int lw), .val (.int (2 : Int32)), .val (.int (32768 : Int32))] [(.int (2 : Int32)), (.ref b10), (.int (4 : Int32)), (.ref b16)])) rfl rfl (hb hby own_d_prog_35_method_1_code_151) _ ?_
    refine st98 _ ?_
    exact kk_)
  obtain ⟨T100, X100, e100, st100⟩ := getF X98 hx hZ hown (host := "") (Or.inl (hw _ (List.mem_of_getElem? (i := 22) rfl))) Via.refl e98 F98_2 (g := (mkF m 162 #[.val (.ref a), .val (.long q), .second, .val (.int (4 : Int32)), .val (.int lw), .val (.int (2 : Int32)), .val (.int (32768 : Int32))] [(.ref a)])) rfl rfl (hb hby own_d_prog_35_method_1_code_162)
  have fold101 : ((2 : Int32) * (2 : Int32)) = (4 : Int32) := by decide +kernel
  have fold102 : ((4 : Int32) + (1 : Int32)) = (5 : Int32) := by decide +kernel
  obtain ⟨T103, X103, e103, st103⟩ := getF X100 hx hZ hown (host := "") (Or.inl (hw _ (List.mem_of_getElem? (i := 20) rfl))) Via.refl e100 F98_1 (g := (mkF m 172 #[.val (.ref a), .val (.long q), .second, .val (.int (4 : Int32)), .val (.int lw), .val (.int (2 : Int32)), .val (.int (32768 : Int32))] [(.ref a), (.int (5 : Int32)), (.ref b16)])) rfl rfl (hb hby own_d_prog_35_method_1_code_172)
  obtain ⟨cl104, Ar104, q104, S104, M104, H104, G104⟩ := id V98_1
  have hin104 : ¬ ((2 : Int32) < 0 ∨ cl104.slots.size ≤ ((2 : Int32)).toNatClampNeg) := inb_of S104 ⟨by decide, by decide⟩
  have hat104 : cl104.slots[((2 : Int32)).toNatClampNeg]? = some (.ref b89) := Has.at H104 hin104 rfl
  obtain ⟨cl105, Ar105, q105, S105, M105, H105, G105⟩ := id V_b16_98
  have hin105 : ¬ ((5 : Int32) < 0 ∨ cl105.slots.size ≤ ((5 : Int32)).toNatClampNeg) := inb_of S105 ⟨by decide, by decide⟩
  obtain ⟨T106, h106, X106, e106, W106, st106⟩ := stR X103 hx hZ e103 Ar105 (j := (5 : Int32)) hin105 rfl (own_stoA Ar105 q105 O16 (Ins.self X98_2)) (g := (mkF m 178 #[.val (.ref a), .val (.long q), .second, .val (.int (4 : Int32)), .val (.int lw), .val (.int (2 : Int32)), .val (.int (32768 : Int32))] [(.ref b89), (.int (5 : Int32)), (.ref b16)])) rfl rfl (hb hby own_d_prog_35_method_1_code_178)
  have V_b16_106 : Arv Z h106 b16 k16 (.array .long) (8 : Int32) [(.ref b22), (.ref b29), (.ref b52), (.ref b59), (.ref b82), (.ref b89), .null, .null] .null := Arv.set Ar105 q105 S105 M105 H105 G105 rfl W106 5 rfl (Nat.le_of_ble_eq_true rfl)
  have F106_0 := F98_0.other W106 (Or.inl ne_a_b16)
  have F106_1 := F98_1.other W106 (Or.inl ne_a_b16)
  have F106_2 := F98_2.other W106 (Or.inl ne_a_b16)
  have X106_0 := X98_0.wr W106
  have X106_1 := X98_1.wr W106
  have X106_2 := X98_2.wr W106
  have S106_0 := S98_0.wr W106
  have V106_0 := V98_0.other W106 ne_b10_b16
  have V106_1 := V98_1.other W106 ne_b12_b16
  have V106_3 := V98_3.other W106 (Ne.symm ne_b16_b22)
  have V106_4 := V98_4.other W106 (Ne.symm ne_b16_b29)
  have V106_5 := V98_5.other W106 (Ne.symm ne_b16_b52)
  have V106_6 := V98_6.other W106 (Ne.symm ne_b16_b59)
  have V106_7 := V98_7.other W106 (Ne.symm ne_b16_b82)
  have V106_8 := V98_8.other W106 (Ne.symm ne_b16_b89)
  have z106 : n0 ≤ h106.size := by rw [W106.size]; exact z98
  have K106 : Keep h0 h106 [a] := K98.wr W106 (Or.inr sz_b16)
  have N106 := Fr.snoc X106 N98 g_b16
  have fold107 : ((2 : Int32) + (1 : Int32)) = (3 : Int32) := by decide +kernel
  have pre108 : ∀ tt_, Steps p.tables e below (T106.setTop (mkF m 78 #[.val (.ref a), .val (.long q), .second, .val (.int (4 : Int32)), .val (.int lw), .val (.int (3 : Int32)), .val (.int (32768 : Int32))] [])) tt_ → Steps p.tables e below (s₁.setTop (entryFrame m #[(.ref a), (.long q)] 7)) tt_ := fun tt_ kk_ => pre99 tt_ (by
    show Steps p.tables e below (T98.setTop (mkF m 153 #[.val (.ref a), .val (.long q), .second, .val (.int (4 : Int32)), .val (.int lw), .val (.int (2 : Int32)), .val (.int (32768 : Int32))] [])) _
    refine XS.iload X98.here hx rfl (hb hby own_d_prog_35_method_1_code_153) rfl ?_
    show Steps p.tables e below (T98.setTop (mkF m 155 #[.val (.ref a), .val (.long q), .second, .val (.int (4 : Int32)), .val (.int lw), .val (.int (2 : Int32)), .val (.int (32768 : Int32))] [(.int (32768 : Int32))])) _
    refine XS.sipush X98.here hx rfl (hb hby own_d_prog_35_method_1_code_155) ?_
    refine XS.icmpNo X98.here hx rfl (hb hby own_d_prog_35_method_1_code_158) rfl (tlt ((by decide) : (32764 : Int32) < (32768 : Int32))).2.2.2 ?_
    refine XS.aloadN X98.here hx rfl (hb hby own_d_prog_35_method_1_code_161) rfl rfl ?_
    refine st100 _ ?_
    refine XS.iconst X100.here hx rfl (hb hby own_d_prog_35_method_1_code_165) ?_
    refine XS.iload X100.here hx rfl (hb hby own_d_prog_35_method_1_code_166) rfl ?_
    refine XS.imul X100.here hx rfl (hb hby own_d_prog_35_method_1_code_168) rfl ?_
    show Steps p.tables e below (T100.setTop (mkF m 169 #[.val (.ref a), .val (.long q), .second, .val (.int (4 : Int32)), .val (.int lw), .val (.int (2 : Int32)), .val (.int (32768 : Int32))] [(.int ((2 : Int32) * (2 : Int32))), (.ref b16)])) _
    rw [fold101]
    show Steps p.tables e below (T100.setTop (mkF m 169 #[.val (.ref a), .val (.long q), .second, .val (.int (4 : Int32)), .val (.int lw), .val (.int (2 : Int32)), .val (.int (32768 : Int32))] [(.int (4 : Int32)), (.ref b16)])) _
    refine XS.iconst X100.here hx rfl (hb hby own_d_prog_35_method_1_code_169) ?_
    refine XS.iadd X100.here hx rfl (hb hby own_d_prog_35_method_1_code_170) rfl ?_
    show Steps p.tables e below (T100.setTop (mkF m 171 #[.val (.ref a), .val (.long q), .second, .val (.int (4 : Int32)), .val (.int lw), .val (.int (2 : Int32)), .val (.int (32768 : Int32))] [(.int ((4 : Int32) + (1 : Int32))), (.ref b16)])) _
    rw [fold102]
    show Steps p.tables e below (T100.setTop (mkF m 171 #[.val (.ref a), .val (.long q), .second, .val (.int (4 : Int32)), .val (.int lw), .val (.int (2 : Int32)), .val (.int (32768 : Int32))] [(.int (5 : Int32)), (.ref b16)])) _
    refine XS.aloadN X100.here hx rfl (hb hby own_d_prog_35_method_1_code_171) rfl rfl ?_
    refine st103 _ ?_
    refine XS.iload X103.here hx rfl (hb hby own_d_prog_35_method_1_code_175) rfl ?_
    refine X103.aaload hx (j := (2 : Int32)) (v := (.ref b89)) (by rw [e103]; exact Ar104.1) (State.isArrayOf_alike hZ.alike Ar104.2.1) rfl Ar104.2.2 hin104 hat104 (g := (mkF m 177 #[.val (.ref a), .val (.long q), .second, .val (.int (4 : Int32)), .val (.int lw), .val (.int (2 : Int32)), .val (.int (32768 : Int32))] [(.int (2 : Int32)), (.ref b12), (.int (5 : Int32)), (.ref b16)])) rfl rfl (hb hby own_d_prog_35_method_1_code_177) _ ?_
    refine st106 _ ?_
    refine XS.iinc X106.here hx rfl (hb hby own_d_prog_35_method_1_code_179) rfl (l' := #[.val (.ref a), .val (.long q), .second, .val (.int (4 : Int32)), .val (.int lw), .val (.int ((2 : Int32) + (1 : Int32))), .val (.int (32768 : Int32))]) rfl ?_
    show Steps p.tables e below (T106.setTop (mkF m 182 #[.val (.ref a), .val (.long q), .second, .val (.int (4 : Int32)), .val (.int lw), .val (.int ((2 : Int32) + (1 : Int32))), .val (.int (32768 : Int32))] [])) _
    rw [fold107]
    show Steps p.tables e below (T106.setTop (mkF m 182 #[.val (.ref a), .val (.long q), .second, .val (.int (4 : Int32)), .val (.int lw), .val (.int (3 : Int32)), .val (.int (32768 : Int32))] [])) _
    refine XS.goto X106.here hx rfl (pc0 := 182) (pc' := 78) rfl (hb hby own_d_prog_35_method_1_code_182) (by decide) (by decide) ?_
    exact kk_)
  have fold109 : ((4 : Int32) - (1 : Int32)) = (3 : Int32) := by decide +kernel
  obtain ⟨T110, X110, e110, st110⟩ := getF X106 hx hZ hown (host := "") (Or.inl (hw _ (List.mem_of_getElem? (i := 18) rfl))) Via.refl e106 F106_0 (g := (mkF m 102 #[.val (.ref a), .val (.long q), .second, .val (.int (4 : Int32)), .val (.int lw), .val (.int (3 : Int32)), .val (.int lw)] [(.ref a)])) rfl rfl (hb hby own_d_prog_35_method_1_code_102)
  obtain ⟨_, _, ⟨T111, L111, k111, n111⟩, -, X111, ⟨Lc111, hQ111, l111, y111, z111⟩, st111⟩ := Jvm.LawKit.callS X110 hx (y := (⟨"java/lang/Math", "min", "(II)I"⟩ : MethodName)) hown (mvT hZ (hw _ (List.mem_of_getElem? (i := 24) rfl))) (mvT hZ (hw _ (List.mem_of_getElem? (i := 25) rfl))) (mvT hZ (hw _ (List.mem_of_getElem? (i := 26) rfl))) (mvT hZ (hw _ (List.mem_of_getElem? (i := 27) rfl))) (by decide) (backOf (W := 2) (rmMin l Z a0 hw [] lw (32764 : Int32) (own_min lw (32764 : Int32)) h106 n0 z106 rfl) hZ (hw _ (List.mem_of_getElem? (i := 27) rfl)) (hw _ (List.mem_of_getElem? (i := 26) rfl)) (by decide) (by decide)) (g := (mkF m 112 #[.val (.ref a), .val (.long q), .second, .val (.int (4 : Int32)), .val (.int lw), .val (.int (3 : Int32)), .val (.int lw)] [(.int (32764 : Int32)), (.int lw), (.int (3 : Int32)), (.ref b10)])) rfl (by rw [hml]; rfl) (argsL := [(.int lw), (.int (32764 : Int32))]) (rest := [(.int (3 : Int32)), (.ref b10)]) (lenOf own_pd0 rfl) rfl (by show 2 * 0 + _ ≤ _; exact Nat.le_of_eq rfl) (hb hby own_d_prog_35_method_1_code_112) (fun _ _ => ⟨rfl, e110, (by decide : 9 + 0 ≤ _), (by decide : 98320 + 0 ≤ _)⟩)
  dsimp only [Pt.U, Pt.locs, Pt.cells, Pt.slots] at X111 l111 y111 z111 st111 hQ111
  replace l111 := l111.symm; subst l111 y111 z111
  obtain ⟨rfl, N111q, e111⟩ := hQ111
  have N111 := Fr.app N106 N111q
  obtain ⟨T112, h112, k112, X112, e112, E112, A112, Ea112, st112⟩ := newPE X111 hx hZ (hw _ (List.mem_of_getElem? (i := 28) rfl)) e111 (g := (mkF m 115 #[.val (.ref a), .val (.long q), .second, .val (.int (4 : Int32)), .val (.int lw), .val (.int (3 : Int32)), .val (.int lw)] [(.int (own_min lw (32764 : Int32))), (.int (3 : Int32)), (.ref b10)])) rfl (hb hby own_d_prog_35_method_1_code_115) rfl (own_hneg hlb) (cap := 32764) (own_hcap hlb) (by decide) (by decide) (by decide) (ad := "[J") (by decide +kernel)
  obtain ⟨b112, g112⟩ : ∃ z, z = h106.size := ⟨_, rfl⟩
  rw [← g112] at A112 st112 Ea112
  have g_b112 : n0 ≤ b112 := Nat.le_trans z106 (Nat.le_of_eq g112.symm)
  have sz_b112 : h0.size ≤ b112 := Nat.le_trans K106.1 (Nat.le_of_eq g112.symm)
  have F112_0 := F106_0.ext E112
  have F112_1 := F106_1.ext E112
  have F112_2 := F106_2.ext E112
  have X112_0 := X106_0.ext E112
  have S112_0 := S106_0.ext E112
  have V112_0 := V106_0.ext E112
  have V112_1 := V106_1.ext E112
  have V112_2 := V_b16_106.ext E112
  have V112_3 := V106_3.ext E112
  have V112_4 := V106_4.ext E112
  have V112_5 := V106_5.ext E112
  have V112_6 := V106_6.ext E112
  have V112_7 := V106_7.ext E112
  have V112_8 := V106_8.ext E112
  have z112 : n0 ≤ h112.size := Nat.le_trans z106 E112.1
  have K112 : Keep h0 h112 [a] := K106.ext E112
  have V_b112 : Arv Z h112 b112 k112 .long (own_min lw (32764 : Int32)) [] (.long (0 : Int64)) := (Arv.new A112 (own_hneg hlb)).pad (pad_rep [] (.long (0 : Int64)) 0)
  obtain ⟨cl113, Ar113, q113, S113, M113, H113, G113⟩ := id V112_0
  have hin113 : ¬ ((3 : Int32) < 0 ∨ cl113.slots.size ≤ ((3 : Int32)).toNatClampNeg) := inb_of S113 ⟨by decide, by decide⟩
  obtain ⟨T114, h114, X114, e114, W114, st114⟩ := stR X112 hx hZ e112 Ar113 (j := (3 : Int32)) hin113 rfl (own_stoA Ar113 q113 O10 (Ins.self Ea112)) (g := (mkF m 117 #[.val (.ref a), .val (.long q), .second, .val (.int (4 : Int32)), .val (.int lw), .val (.int (3 : Int32)), .val (.int lw)] [(.ref b112), (.int (3 : Int32)), (.ref b10)])) rfl rfl (hb hby own_d_prog_35_method_1_code_117)
  have V_b10_114 : Arv Z h114 b10 k10 (.array .long) (4 : Int32) [(.ref b22), (.ref b52), (.ref b82), (.ref b112)] .null := Arv.set Ar113 q113 S113 M113 H113 G113 rfl W114 3 rfl (Nat.le_of_ble_eq_true rfl)
  have F114_0 := F112_0.other W114 (Or.inl ne_a_b10)
  have F114_1 := F112_1.other W114 (Or.inl ne_a_b10)
  have F114_2 := F112_2.other W114 (Or.inl ne_a_b10)
  have X114_0 := X112_0.wr W114
  have X114_1 := Ea112.wr W114
  have S114_0 := S112_0.wr W114
  have V114_1 := V112_1.other W114 (Ne.symm ne_b10_b12)
  have V114_2 := V112_2.other W114 (Ne.symm ne_b10_b16)
  have V114_3 := V112_3.other W114 (Ne.symm ne_b10_b22)
  have V114_4 := V112_4.other W114 (Ne.symm ne_b10_b29)
  have V114_5 := V112_5.other W114 (Ne.symm ne_b10_b52)
  have V114_6 := V112_6.other W114 (Ne.symm ne_b10_b59)
  have V114_7 := V112_7.other W114 (Ne.symm ne_b10_b82)
  have ne_b10_b89 : b10 ≠ b89 := Nat.ne_of_lt (Nat.lt_of_lt_of_le (V_b10_84).lt (Nat.le_of_eq g89.symm))
  have V114_8 := V112_8.other W114 (Ne.symm ne_b10_b89)
  have ne_b10_b112 : b10 ≠ b112 := Nat.ne_of_lt (Nat.lt_of_lt_of_le (V106_0).lt (Nat.le_of_eq g112.symm))
  have V114_9 := V_b112.other W114 (Ne.symm ne_b10_b112)
  have z114 : n0 ≤ h114.size := by rw [W114.size]; exact z112
  have K114 : Keep h0 h114 [a] := K112.wr W114 (Or.inr sz_b10)
  have N114 := Fr.snoc X114 N111 g_b10
  have pre115 : ∀ tt_, Steps p.tables e below (T114.setTop (mkF m 118 #[.val (.ref a), .val (.long q), .second, .val (.int (4 : Int32)), .val (.int lw), .val (.int (3 : Int32)), .val (.int lw)] [])) tt_ → Steps p.tables e below (s₁.setTop (entryFrame m #[(.ref a), (.long q)] 7)) tt_ := fun tt_ kk_ => pre108 tt_ (by
    show Steps p.tables e below (T106.setTop (mkF m 78 #[.val (.ref a), .val (.long q), .second, .val (.int (4 : Int32)), .val (.int lw), .val (.int (3 : Int32)), .val (.int (32768 : Int32))] [])) _
    refine XS.iload X106.here hx rfl (hb hby own_d_prog_35_method_1_code_78) rfl ?_
    refine XS.iloadN X106.here hx rfl (hb hby own_d_prog_35_method_1_code_80) rfl ?_
    refine XS.icmpNo X106.here hx rfl (hb hby own_d_prog_35_method_1_code_81) rfl (tlt ((by decide) : (3 : Int32) < (4 : Int32))).2.1 ?_
    refine XS.iload X106.here hx rfl (hb hby own_d_prog_35_method_1_code_84) rfl ?_
    refine XS.iloadN X106.here hx rfl (hb hby own_d_prog_35_method_1_code_86) rfl ?_
    show Steps p.tables e below (T106.setTop (mkF m 87 #[.val (.ref a), .val (.long q), .second, .val (.int (4 : Int32)), .val (.int lw), .val (.int (3 : Int32)), .val (.int (32768 : Int32))] [(.int (4 : Int32)), (.int (3 : Int32))])) _
    refine XS.iconst X106.here hx rfl (hb hby own_d_prog_35_method_1_code_87) ?_
    refine XS.isub X106.here hx rfl (hb hby own_d_prog_35_method_1_code_88) rfl ?_
    show Steps p.tables e below (T106.setTop (mkF m 89 #[.val (.ref a), .val (.long q), .second, .val (.int (4 : Int32)), .val (.int lw), .val (.int (3 : Int32)), .val (.int (32768 : Int32))] [(.int ((4 : Int32) - (1 : Int32))), (.int (3 : Int32))])) _
    rw [fold109]
    show Steps p.tables e below (T106.setTop (mkF m 89 #[.val (.ref a), .val (.long q), .second, .val (.int (4 : Int32)), .val (.int lw), .val (.int (3 : Int32)), .val (.int (32768 : Int32))] [(.int (3 : Int32)), (.int (3 : Int32))])) _
    refine XS.icmpYes X106.here hx rfl (pc0 := 89) (pc' := 97) rfl (hb hby own_d_prog_35_method_1_code_89) rfl (flt ((by decide) : ¬ ((3 : Int32) < (3 : Int32)))).2.1 (by decide) (by decide) ?_
    refine XS.iload X106.here hx rfl (hb hby own_d_prog_35_method_1_code_97) rfl ?_
    refine XS.istore X106.here hx rfl (hb hby own_d_prog_35_method_1_code_99) rfl (l' := #[.val (.ref a), .val (.long q), .second, .val (.int (4 : Int32)), .val (.int lw), .val (.int (3 : Int32)), .val (.int lw)]) rfl ?_
    refine XS.aloadN X106.here hx rfl (hb hby own_d_prog_35_method_1_code_101) rfl rfl ?_
    refine st110 _ ?_
    show Steps p.tables e below (T110.setTop (mkF m 105 #[.val (.ref a), .val (.long q), .second, .val (.int (4 : Int32)), .val (.int lw), .val (.int (3 : Int32)), .val (.int lw)] [(.ref b10)])) _
    refine XS.iload X110.here hx rfl (hb hby own_d_prog_35_method_1_code_105) rfl ?_
    refine XS.iload X110.here hx rfl (hb hby own_d_prog_35_method_1_code_107) rfl ?_
    refine XS.sipush X110.here hx rfl (hb hby own_d_prog_35_method_1_code_109) ?_
    show Steps p.tables e below (T110.setTop (mkF m 112 #[.val (.ref a), .val (.long q), .second, .val (.int (4 : Int32)), .val (.int lw), .val (.int (3 : Int32)), .val (.int lw)] [(.int (32764 : Int32)), (.int lw), (.int (3 : Int32)), (.ref b10)])) _
    refine st111 _ ?_
    refine st112 _ ?_
    refine st114 _ ?_
    exact kk_)
  obtain ⟨T116, X116, e116, st116⟩ := getF X114 hx hZ hown (host := "") (Or.inl (hw _ (List.mem_of_getElem? (i := 20) rfl))) Via.refl e114 F114_1 (g := (mkF m 119 #[.val (.ref a), .val (.long q), .second, .val (.int (4 : Int32)), .val (.int lw), .val (.int (3 : Int32)), .val (.int lw)] [(.ref a)])) rfl rfl (hb hby own_d_prog_35_method_1_code_119)
  obtain ⟨_, _, ⟨T117, L117, k117, n117⟩, -, X117, ⟨Lc117, hQ117, l117, y117, z117⟩, st117⟩ := Jvm.LawKit.callS X116 hx (y := (⟨"java/lang/Math", "max", "(II)I"⟩ : MethodName)) hown (mvT hZ (hw _ (List.mem_of_getElem? (i := 30) rfl))) (mvT hZ (hw _ (List.mem_of_getElem? (i := 31) rfl))) (mvT hZ (hw _ (List.mem_of_getElem? (i := 26) rfl))) (mvT hZ (hw _ (List.mem_of_getElem? (i := 32) rfl))) (by decide) (backOf (W := 2) (rmMax l Z a0 hw [] (lw - (32764 : Int32)) (0 : Int32) (own_max (lw - (32764 : Int32)) (0 : Int32)) h114 n0 z114 rfl) hZ (hw _ (List.mem_of_getElem? (i := 32) rfl)) (hw _ (List.mem_of_getElem? (i := 26) rfl)) (by decide) (by decide)) (g := (mkF m 131 #[.val (.ref a), .val (.long q), .second, .val (.int (4 : Int32)), .val (.int lw), .val (.int (3 : Int32)), .val (.int lw)] [(.int (0 : Int32)), (.int (lw - (32764 : Int32))), (.int (3 : Int32)), (.ref b12)])) rfl (by rw [hml]; rfl) (argsL := [(.int (lw - (32764 : Int32))), (.int (0 : Int32))]) (rest := [(.int (3 : Int32)), (.ref b12)]) (lenOf own_pd0 rfl) rfl (by show 2 * 0 + _ ≤ _; exact Nat.le_of_eq rfl) (hb hby own_d_prog_35_method_1_code_131) (fun _ _ => ⟨rfl, e116, (by decide : 10 + 0 ≤ _), (by decide : 131084 + 0 ≤ _)⟩)
  dsimp only [Pt.U, Pt.locs, Pt.cells, Pt.slots] at X117 l117 y117 z117 st117 hQ117
  replace l117 := l117.symm; subst l117 y117 z117
  obtain ⟨rfl, N117q, e117⟩ := hQ117
  have N117 := Fr.app N114 N117q
  obtain ⟨T118, h118, k118, X118, e118, E118, A118, Ea118, st118⟩ := newPE X117 hx hZ (hw _ (List.mem_of_getElem? (i := 28) rfl)) e117 (g := (mkF m 134 #[.val (.ref a), .val (.long q), .second, .val (.int (4 : Int32)), .val (.int lw), .val (.int (3 : Int32)), .val (.int lw)] [(.int (own_max (lw - (32764 : Int32)) (0 : Int32))), (.int (3 : Int32)), (.ref b12)])) rfl (hb hby own_d_prog_35_method_1_code_134) rfl (own_tneg hlb) (cap := 4) (own_tcap hlb) (by decide) (by decide) (by decide) (ad := "[J") (by decide +kernel)
  obtain ⟨b118, g118⟩ : ∃ z, z = h114.size := ⟨_, rfl⟩
  rw [← g118] at A118 st118 Ea118
  have g_b118 : n0 ≤ b118 := Nat.le_trans z114 (Nat.le_of_eq g118.symm)
  have sz_b118 : h0.size ≤ b118 := Nat.le_trans K114.1 (Nat.le_of_eq g118.symm)
  have F118_0 := F114_0.ext E118
  have F118_1 := F114_1.ext E118
  have F118_2 := F114_2.ext E118
  have X118_0 := X114_0.ext E118
  have X118_1 := X114_1.ext E118
  have S118_0 := S114_0.ext E118
  have V118_0 := V_b10_114.ext E118
  have V118_1 := V114_1.ext E118
  have V118_2 := V114_2.ext E118
  have V118_3 := V114_3.ext E118
  have V118_4 := V114_4.ext E118
  have V118_5 := V114_5.ext E118
  have V118_6 := V114_6.ext E118
  have V118_7 := V114_7.ext E118
  have V118_8 := V114_8.ext E118
  have V118_9 := V114_9.ext E118
  have z118 : n0 ≤ h118.size := Nat.le_trans z114 E118.1
  have K118 : Keep h0 h118 [a] := K114.ext E118
  have V_b118 : Arv Z h118 b118 k118 .long (own_max (lw - (32764 : Int32)) (0 : Int32)) [] (.long (0 : Int64)) := (Arv.new A118 (own_tneg hlb)).pad (pad_rep [] (.long (0 : Int64)) 0)
  obtain ⟨cl119, Ar119, q119, S119, M119, H119, G119⟩ := id V118_1
  have hin119 : ¬ ((3 : Int32) < 0 ∨ cl119.slots.size ≤ ((3 : Int32)).toNatClampNeg) := inb_of S119 ⟨by decide, by decide⟩
  obtain ⟨T120, h120, X120, e120, W120, st120⟩ := stR X118 hx hZ e118 Ar119 (j := (3 : Int32)) hin119 rfl (own_stoA Ar119 q119 O12 (Ins.self Ea118)) (g := (mkF m 136 #[.val (.ref a), .val (.long q), .second, .val (.int (4 : Int32)), .val (.int lw), .val (.int (3 : Int32)), .val (.int lw)] [(.ref b118), (.int (3 : Int32)), (.ref b12)])) rfl rfl (hb hby own_d_prog_35_method_1_code_136)
  have V_b12_120 : Arv Z h120 b12 k12 (.array .long) (4 : Int32) [(.ref b29), (.ref b59), (.ref b89), (.ref b118)] .null := Arv.set Ar119 q119 S119 M119 H119 G119 rfl W120 3 rfl (Nat.le_of_ble_eq_true rfl)
  have F120_0 := F118_0.other W120 (Or.inl ne_a_b12)
  have F120_1 := F118_1.other W120 (Or.inl ne_a_b12)
  have F120_2 := F118_2.other W120 (Or.inl ne_a_b12)
  have X120_0 := X118_0.wr W120
  have X120_1 := X118_1.wr W120
  have X120_2 := Ea118.wr W120
  have S120_0 := S118_0.wr W120
  have V120_0 := V118_0.other W120 ne_b10_b12
  have V120_2 := V118_2.other W120 (Ne.symm ne_b12_b16)
  have V120_3 := V118_3.other W120 (Ne.symm ne_b12_b22)
  have V120_4 := V118_4.other W120 (Ne.symm ne_b12_b29)
  have V120_5 := V118_5.other W120 (Ne.symm ne_b12_b52)
  have V120_6 := V118_6.other W120 (Ne.symm ne_b12_b59)
  have V120_7 := V118_7.other W120 (Ne.symm ne_b12_b82)
  have V120_8 := V118_8.other W120 (Ne.symm ne_b12_b89)
  have ne_b12_b112 : b12 ≠ b112 := Nat.ne_of_lt (Nat.lt_of_lt_of_le (V106_1).lt (Nat.le_of_eq g112.symm))
  have V120_9 := V118_9.other W120 (Ne.symm ne_b12_b112)
  have ne_b12_b118 : b12 ≠ b118 := Nat.ne_of_lt (Nat.lt_of_lt_of_le (V114_1).lt (Nat.le_of_eq g118.symm))
  have V120_10 := V_b118.other W120 (Ne.symm ne_b12_b118)
  have z120 : n0 ≤ h120.size := by rw [W120.size]; exact z118
  have K120 : Keep h0 h120 [a] := K118.wr W120 (Or.inr sz_b12)
  have N120 := Fr.snoc X120 N117 g_b12
  have pre121 : ∀ tt_, Steps p.tables e below (T120.setTop (mkF m 137 #[.val (.ref a), .val (.long q), .second, .val (.int (4 : Int32)), .val (.int lw), .val (.int (3 : Int32)), .val (.int lw)] [])) tt_ → Steps p.tables e below (s₁.setTop (entryFrame m #[(.ref a), (.long q)] 7)) tt_ := fun tt_ kk_ => pre115 tt_ (by
    show Steps p.tables e below (T114.setTop (mkF m 118 #[.val (.ref a), .val (.long q), .second, .val (.int (4 : Int32)), .val (.int lw), .val (.int (3 : Int32)), .val (.int lw)] [])) _
    refine XS.aloadN X114.here hx rfl (hb hby own_d_prog_35_method_1_code_118) rfl rfl ?_
    refine st116 _ ?_
    refine XS.iload X116.here hx rfl (hb hby own_d_prog_35_method_1_code_122) rfl ?_
    refine XS.iload X116.here hx rfl (hb hby own_d_prog_35_method_1_code_124) rfl ?_
    show Steps p.tables e below (T116.setTop (mkF m 126 #[.val (.ref a), .val (.long q), .second, .val (.int (4 : Int32)), .val (.int lw), .val (.int (3 : Int32)), .val (.int lw)] [(.int lw), (.int (3 : Int32)), (.ref b12)])) _
    refine XS.sipush X116.here hx rfl (hb hby own_d_prog_35_method_1_code_126) ?_
    refine XS.isub X116.here hx rfl (hb hby own_d_prog_35_method_1_code_129) rfl ?_
    refine XS.iconst X116.here hx rfl (hb hby own_d_prog_35_method_1_code_130) ?_
    show Steps p.tables e below (T116.setTop (mkF m 131 #[.val (.ref a), .val (.long q), .second, .val (.int (4 : Int32)), .val (.int lw), .val (.int (3 : Int32)), .val (.int lw)] [(.int (0 : Int32)), (.int (lw - (32764 : Int32))), (.int (3 : Int32)), (.ref b12)])) _
    refine st117 _ ?_
    refine st118 _ ?_
    refine st120 _ ?_
    exact kk_)
  obtain ⟨T122, X122, e122, st122⟩ := getF X120 hx hZ hown (host := "") (Or.inl (hw _ (List.mem_of_getElem? (i := 22) rfl))) Via.refl e120 F120_2 (g := (mkF m 138 #[.val (.ref a), .val (.long q), .second, .val (.int (4 : Int32)), .val (.int lw), .val (.int (3 : Int32)), .val (.int lw)] [(.ref a)])) rfl rfl (hb hby own_d_prog_35_method_1_code_138)
  have fold123 : ((2 : Int32) * (3 : Int32)) = (6 : Int32) := by decide +kernel
  obtain ⟨T124, X124, e124, st124⟩ := getF X122 hx hZ hown (host := "") (Or.inl (hw _ (List.mem_of_getElem? (i := 18) rfl))) Via.refl e122 F120_0 (g := (mkF m 146 #[.val (.ref a), .val (.long q), .second, .val (.int (4 : Int32)), .val (.int lw), .val (.int (3 : Int32)), .val (.int lw)] [(.ref a), (.int (6 : Int32)), (.ref b16)])) rfl rfl (hb hby own_d_prog_35_method_1_code_146)
  obtain ⟨cl125, Ar125, q125, S125, M125, H125, G125⟩ := id V120_0
  have hin125 : ¬ ((3 : Int32) < 0 ∨ cl125.slots.size ≤ ((3 : Int32)).toNatClampNeg) := inb_of S125 ⟨by decide, by decide⟩
  have hat125 : cl125.slots[((3 : Int32)).toNatClampNeg]? = some (.ref b112) := Has.at H125 hin125 rfl
  obtain ⟨cl126, Ar126, q126, S126, M126, H126, G126⟩ := id V120_2
  have hin126 : ¬ ((6 : Int32) < 0 ∨ cl126.slots.size ≤ ((6 : Int32)).toNatClampNeg) := inb_of S126 ⟨by decide, by decide⟩
  obtain ⟨T127, h127, X127, e127, W127, st127⟩ := stR X124 hx hZ e124 Ar126 (j := (6 : Int32)) hin126 rfl (own_stoA Ar126 q126 O16 (Ins.self X120_1)) (g := (mkF m 152 #[.val (.ref a), .val (.long q), .second, .val (.int (4 : Int32)), .val (.int lw), .val (.int (3 : Int32)), .val (.int lw)] [(.ref b112), (.int (6 : Int32)), (.ref b16)])) rfl rfl (hb hby own_d_prog_35_method_1_code_152)
  have V_b16_127 : Arv Z h127 b16 k16 (.array .long) (8 : Int32) [(.ref b22), (.ref b29), (.ref b52), (.ref b59), (.ref b82), (.ref b89), (.ref b112), .null] .null := Arv.set Ar126 q126 S126 M126 H126 G126 rfl W127 6 rfl (Nat.le_of_ble_eq_true rfl)
  have F127_0 := F120_0.other W127 (Or.inl ne_a_b16)
  have F127_1 := F120_1.other W127 (Or.inl ne_a_b16)
  have F127_2 := F120_2.other W127 (Or.inl ne_a_b16)
  have X127_0 := X120_0.wr W127
  have X127_1 := X120_1.wr W127
  have X127_2 := X120_2.wr W127
  have S127_0 := S120_0.wr W127
  have V127_0 := V120_0.other W127 ne_b10_b16
  have V127_1 := V_b12_120.other W127 ne_b12_b16
  have V127_3 := V120_3.other W127 (Ne.symm ne_b16_b22)
  have V127_4 := V120_4.other W127 (Ne.symm ne_b16_b29)
  have V127_5 := V120_5.other W127 (Ne.symm ne_b16_b52)
  have V127_6 := V120_6.other W127 (Ne.symm ne_b16_b59)
  have V127_7 := V120_7.other W127 (Ne.symm ne_b16_b82)
  have V127_8 := V120_8.other W127 (Ne.symm ne_b16_b89)
  have ne_b16_b112 : b16 ≠ b112 := Nat.ne_of_lt (Nat.lt_of_lt_of_le (V_b16_106).lt (Nat.le_of_eq g112.symm))
  have V127_9 := V120_9.other W127 (Ne.symm ne_b16_b112)
  have ne_b16_b118 : b16 ≠ b118 := Nat.ne_of_lt (Nat.lt_of_lt_of_le (V114_2).lt (Nat.le_of_eq g118.symm))
  have V127_10 := V120_10.other W127 (Ne.symm ne_b16_b118)
  have z127 : n0 ≤ h127.size := by rw [W127.size]; exact z120
  have K127 : Keep h0 h127 [a] := K120.wr W127 (Or.inr sz_b16)
  have N127 := Fr.snoc X127 N120 g_b16
  have pre128 : ∀ tt_, Steps p.tables e below (T127.setTop (mkF m 153 #[.val (.ref a), .val (.long q), .second, .val (.int (4 : Int32)), .val (.int lw), .val (.int (3 : Int32)), .val (.int lw)] [])) tt_ → Steps p.tables e below (s₁.setTop (entryFrame m #[(.ref a), (.long q)] 7)) tt_ := fun tt_ kk_ => pre121 tt_ (by
    show Steps p.tables e below (T120.setTop (mkF m 137 #[.val (.ref a), .val (.long q), .second, .val (.int (4 : Int32)), .val (.int lw), .val (.int (3 : Int32)), .val (.int lw)] [])) _
    refine XS.aloadN X120.here hx rfl (hb hby own_d_prog_35_method_1_code_137) rfl rfl ?_
    refine st122 _ ?_
    refine XS.iconst X122.here hx rfl (hb hby own_d_prog_35_method_1_code_141) ?_
    refine XS.iload X122.here hx rfl (hb hby own_d_prog_35_method_1_code_142) rfl ?_
    show Steps p.tables e below (T122.setTop (mkF m 144 #[.val (.ref a), .val (.long q), .second, .val (.int (4 : Int32)), .val (.int lw), .val (.int (3 : Int32)), .val (.int lw)] [(.int (3 : Int32)), (.int (2 : Int32)), (.ref b16)])) _
    refine XS.imul X122.here hx rfl (hb hby own_d_prog_35_method_1_code_144) rfl ?_
    show Steps p.tables e below (T122.setTop (mkF m 145 #[.val (.ref a), .val (.long q), .second, .val (.int (4 : Int32)), .val (.int lw), .val (.int (3 : Int32)), .val (.int lw)] [(.int ((2 : Int32) * (3 : Int32))), (.ref b16)])) _
    rw [fold123]
    show Steps p.tables e below (T122.setTop (mkF m 145 #[.val (.ref a), .val (.long q), .second, .val (.int (4 : Int32)), .val (.int lw), .val (.int (3 : Int32)), .val (.int lw)] [(.int (6 : Int32)), (.ref b16)])) _
    refine XS.aloadN X122.here hx rfl (hb hby own_d_prog_35_method_1_code_145) rfl rfl ?_
    refine st124 _ ?_
    refine XS.iload X124.here hx rfl (hb hby own_d_prog_35_method_1_code_149) rfl ?_
    refine X124.aaload hx (j := (3 : Int32)) (v := (.ref b112)) (by rw [e124]; exact Ar125.1) (State.isArrayOf_alike hZ.alike Ar125.2.1) rfl Ar125.2.2 hin125 hat125 (g := (mkF m 151 #[.val (.ref a), .val (.long q), .second, .val (.int (4 : Int32)), .val (.int lw), .val (.int (3 : Int32)), .val (.int lw)] [(.int (3 : Int32)), (.ref b10), (.int (6 : Int32)), (.ref b16)])) rfl rfl (hb hby own_d_prog_35_method_1_code_151) _ ?_
    refine st127 _ ?_
    exact kk_)
  obtain ⟨T129, X129, e129, st129⟩ := getF X127 hx hZ hown (host := "") (Or.inl (hw _ (List.mem_of_getElem? (i := 22) rfl))) Via.refl e127 F127_2 (g := (mkF m 162 #[.val (.ref a), .val (.long q), .second, .val (.int (4 : Int32)), .val (.int lw), .val (.int (3 : Int32)), .val (.int lw)] [(.ref a)])) rfl rfl (hb hby own_d_prog_35_method_1_code_162)
  have fold130 : ((2 : Int32) * (3 : Int32)) = (6 : Int32) := by decide +kernel
  have fold131 : ((6 : Int32) + (1 : Int32)) = (7 : Int32) := by decide +kernel
  obtain ⟨T132, X132, e132, st132⟩ := getF X129 hx hZ hown (host := "") (Or.inl (hw _ (List.mem_of_getElem? (i := 20) rfl))) Via.refl e129 F127_1 (g := (mkF m 172 #[.val (.ref a), .val (.long q), .second, .val (.int (4 : Int32)), .val (.int lw), .val (.int (3 : Int32)), .val (.int lw)] [(.ref a), (.int (7 : Int32)), (.ref b16)])) rfl rfl (hb hby own_d_prog_35_method_1_code_172)
  obtain ⟨cl133, Ar133, q133, S133, M133, H133, G133⟩ := id V127_1
  have hin133 : ¬ ((3 : Int32) < 0 ∨ cl133.slots.size ≤ ((3 : Int32)).toNatClampNeg) := inb_of S133 ⟨by decide, by decide⟩
  have hat133 : cl133.slots[((3 : Int32)).toNatClampNeg]? = some (.ref b118) := Has.at H133 hin133 rfl
  obtain ⟨cl134, Ar134, q134, S134, M134, H134, G134⟩ := id V_b16_127
  have hin134 : ¬ ((7 : Int32) < 0 ∨ cl134.slots.size ≤ ((7 : Int32)).toNatClampNeg) := inb_of S134 ⟨by decide, by decide⟩
  obtain ⟨T135, h135, X135, e135, W135, st135⟩ := stR X132 hx hZ e132 Ar134 (j := (7 : Int32)) hin134 rfl (own_stoA Ar134 q134 O16 (Ins.self X127_2)) (g := (mkF m 178 #[.val (.ref a), .val (.long q), .second, .val (.int (4 : Int32)), .val (.int lw), .val (.int (3 : Int32)), .val (.int lw)] [(.ref b118), (.int (7 : Int32)), (.ref b16)])) rfl rfl (hb hby own_d_prog_35_method_1_code_178)
  have V_b16_135 : Arv Z h135 b16 k16 (.array .long) (8 : Int32) [(.ref b22), (.ref b29), (.ref b52), (.ref b59), (.ref b82), (.ref b89), (.ref b112), (.ref b118)] .null := Arv.set Ar134 q134 S134 M134 H134 G134 rfl W135 7 rfl (Nat.le_of_ble_eq_true rfl)
  have F135_0 := F127_0.other W135 (Or.inl ne_a_b16)
  have F135_1 := F127_1.other W135 (Or.inl ne_a_b16)
  have F135_2 := F127_2.other W135 (Or.inl ne_a_b16)
  have X135_0 := X127_0.wr W135
  have X135_1 := X127_1.wr W135
  have X135_2 := X127_2.wr W135
  have S135_0 := S127_0.wr W135
  have V135_0 := V127_0.other W135 ne_b10_b16
  have V135_1 := V127_1.other W135 ne_b12_b16
  have V135_3 := V127_3.other W135 (Ne.symm ne_b16_b22)
  have V135_4 := V127_4.other W135 (Ne.symm ne_b16_b29)
  have V135_5 := V127_5.other W135 (Ne.symm ne_b16_b52)
  have V135_6 := V127_6.other W135 (Ne.symm ne_b16_b59)
  have V135_7 := V127_7.other W135 (Ne.symm ne_b16_b82)
  have V135_8 := V127_8.other W135 (Ne.symm ne_b16_b89)
  have V135_9 := V127_9.other W135 (Ne.symm ne_b16_b112)
  have V135_10 := V127_10.other W135 (Ne.symm ne_b16_b118)
  have z135 : n0 ≤ h135.size := by rw [W135.size]; exact z127
  have K135 : Keep h0 h135 [a] := K127.wr W135 (Or.inr sz_b16)
  have N135 := Fr.snoc X135 N127 g_b16
  have fold136 : ((3 : Int32) + (1 : Int32)) = (4 : Int32) := by decide +kernel
  have pre137 : ∀ tt_, Steps p.tables e below (T135.setTop (mkF m 78 #[.val (.ref a), .val (.long q), .second, .val (.int (4 : Int32)), .val (.int lw), .val (.int (4 : Int32)), .val (.int lw)] [])) tt_ → Steps p.tables e below (s₁.setTop (entryFrame m #[(.ref a), (.long q)] 7)) tt_ := fun tt_ kk_ => pre128 tt_ (by
    show Steps p.tables e below (T127.setTop (mkF m 153 #[.val (.ref a), .val (.long q), .second, .val (.int (4 : Int32)), .val (.int lw), .val (.int (3 : Int32)), .val (.int lw)] [])) _
    refine XS.iload X127.here hx rfl (hb hby own_d_prog_35_method_1_code_153) rfl ?_
    refine XS.sipush X127.here hx rfl (hb hby own_d_prog_35_method_1_code_155) ?_
    show Steps p.tables e below (T127.setTop (mkF m 158 #[.val (.ref a), .val (.long q), .second, .val (.int (4 : Int32)), .val (.int lw), .val (.int (3 : Int32)), .val (.int lw)] [(.int (32764 : Int32)), (.int lw)])) _
    refine XS.icmpNo X127.here hx rfl (hb hby own_d_prog_35_method_1_code_158) rfl (tlt (ht : (32764 : Int32) < lw)).2.2.2 ?_
    refine XS.aloadN X127.here hx rfl (hb hby own_d_prog_35_method_1_code_161) rfl rfl ?_
    refine st129 _ ?_
    refine XS.iconst X129.here hx rfl (hb hby own_d_prog_35_method_1_code_165) ?_
    refine XS.iload X129.here hx rfl (hb hby own_d_prog_35_method_1_code_166) rfl ?_
    refine XS.imul X129.here hx rfl (hb hby own_d_prog_35_method_1_code_168) rfl ?_
    show Steps p.tables e below (T129.setTop (mkF m 169 #[.val (.ref a), .val (.long q), .second, .val (.int (4 : Int32)), .val (.int lw), .val (.int (3 : Int32)), .val (.int lw)] [(.int ((2 : Int32) * (3 : Int32))), (.ref b16)])) _
    rw [fold130]
    show Steps p.tables e below (T129.setTop (mkF m 169 #[.val (.ref a), .val (.long q), .second, .val (.int (4 : Int32)), .val (.int lw), .val (.int (3 : Int32)), .val (.int lw)] [(.int (6 : Int32)), (.ref b16)])) _
    refine XS.iconst X129.here hx rfl (hb hby own_d_prog_35_method_1_code_169) ?_
    show Steps p.tables e below (T129.setTop (mkF m 170 #[.val (.ref a), .val (.long q), .second, .val (.int (4 : Int32)), .val (.int lw), .val (.int (3 : Int32)), .val (.int lw)] [(.int (1 : Int32)), (.int (6 : Int32)), (.ref b16)])) _
    refine XS.iadd X129.here hx rfl (hb hby own_d_prog_35_method_1_code_170) rfl ?_
    show Steps p.tables e below (T129.setTop (mkF m 171 #[.val (.ref a), .val (.long q), .second, .val (.int (4 : Int32)), .val (.int lw), .val (.int (3 : Int32)), .val (.int lw)] [(.int ((6 : Int32) + (1 : Int32))), (.ref b16)])) _
    rw [fold131]
    show Steps p.tables e below (T129.setTop (mkF m 171 #[.val (.ref a), .val (.long q), .second, .val (.int (4 : Int32)), .val (.int lw), .val (.int (3 : Int32)), .val (.int lw)] [(.int (7 : Int32)), (.ref b16)])) _
    refine XS.aloadN X129.here hx rfl (hb hby own_d_prog_35_method_1_code_171) rfl rfl ?_
    refine st132 _ ?_
    refine XS.iload X132.here hx rfl (hb hby own_d_prog_35_method_1_code_175) rfl ?_
    refine X132.aaload hx (j := (3 : Int32)) (v := (.ref b118)) (by rw [e132]; exact Ar133.1) (State.isArrayOf_alike hZ.alike Ar133.2.1) rfl Ar133.2.2 hin133 hat133 (g := (mkF m 177 #[.val (.ref a), .val (.long q), .second, .val (.int (4 : Int32)), .val (.int lw), .val (.int (3 : Int32)), .val (.int lw)] [(.int (3 : Int32)), (.ref b12), (.int (7 : Int32)), (.ref b16)])) rfl rfl (hb hby own_d_prog_35_method_1_code_177) _ ?_
    refine st135 _ ?_
    refine XS.iinc X135.here hx rfl (hb hby own_d_prog_35_method_1_code_179) rfl (l' := #[.val (.ref a), .val (.long q), .second, .val (.int (4 : Int32)), .val (.int lw), .val (.int ((3 : Int32) + (1 : Int32))), .val (.int lw)]) rfl ?_
    show Steps p.tables e below (T135.setTop (mkF m 182 #[.val (.ref a), .val (.long q), .second, .val (.int (4 : Int32)), .val (.int lw), .val (.int ((3 : Int32) + (1 : Int32))), .val (.int lw)] [])) _
    rw [fold136]
    show Steps p.tables e below (T135.setTop (mkF m 182 #[.val (.ref a), .val (.long q), .second, .val (.int (4 : Int32)), .val (.int lw), .val (.int (4 : Int32)), .val (.int lw)] [])) _
    refine XS.goto X135.here hx rfl (pc0 := 182) (pc' := 78) rfl (hb hby own_d_prog_35_method_1_code_182) (by decide) (by decide) ?_
    exact kk_)
  have pre138 : ∀ tt_, Steps p.tables e below (T135.setTop (mkF m 185 #[.val (.ref a), .val (.long q), .second, .val (.int (4 : Int32)), .val (.int lw), .val (.int (4 : Int32)), .val (.int lw)] [])) tt_ → Steps p.tables e below (s₁.setTop (entryFrame m #[(.ref a), (.long q)] 7)) tt_ := fun tt_ kk_ => pre137 tt_ (by
    show Steps p.tables e below (T135.setTop (mkF m 78 #[.val (.ref a), .val (.long q), .second, .val (.int (4 : Int32)), .val (.int lw), .val (.int (4 : Int32)), .val (.int lw)] [])) _
    refine XS.iload X135.here hx rfl (hb hby own_d_prog_35_method_1_code_78) rfl ?_
    refine XS.iloadN X135.here hx rfl (hb hby own_d_prog_35_method_1_code_80) rfl ?_
    refine XS.icmpYes X135.here hx rfl (pc0 := 81) (pc' := 185) rfl (hb hby own_d_prog_35_method_1_code_81) rfl (flt ((by decide) : ¬ ((4 : Int32) < (4 : Int32)))).2.1 (by decide) (by decide) ?_
    exact kk_)
  obtain ⟨fs, hr, hrun, hended, hW, hsame⟩ := X135.leave (v := none) (fun _ => rfl)
  refine ⟨_, _, pre138 _ ?_, hrun, hended, _, _, rfl, ?_, ⟨_, rfl⟩, hW, hsame.mono (by decide) (by decide)⟩
  · show Steps p.tables e below (T135.setTop (mkF m 185 #[.val (.ref a), .val (.long q), .second, .val (.int (4 : Int32)), .val (.int lw), .val (.int (4 : Int32)), .val (.int lw)] [])) _
    exact X135.returnOut hx Bd.returns (hb hby own_d_prog_35_method_1_code_185) hr
  · show QI Z a 4 lw h0 n0 _ T135.heap _
    rw [e135]
    have H1 : ∀ pg : Nat, pg < 4 → ∃ r, ([(.ref b22), (.ref b52), (.ref b82), (.ref b112)] : List Value).getD pg .null = .ref r ∧ ([(.ref b22), (.ref b29), (.ref b52), (.ref b59), (.ref b82), (.ref b89), (.ref b112), (.ref b118)] : List Value).getD (2 * pg) .null = .ref r ∧ own_Len Z h135 r .long (own_lenH 4 lw pg) := by
      intro pg hp
      obtain rfl | rfl | rfl | rfl := own_lt4 hp
      · exact ⟨b22, rfl, rfl, own_Len.of (Arv.arh V135_3)⟩
      · exact ⟨b52, rfl, rfl, own_Len.of (Arv.arh V135_5)⟩
      · exact ⟨b82, rfl, rfl, own_Len.of (Arv.arh V135_7)⟩
      · exact ⟨b112, rfl, rfl, own_Len.of (Arv.arh V135_9)⟩
    have H2 : ∀ pg : Nat, pg < 4 → (pg + 1 < 4 ∨ (32764 : Int32) < lw) → ∃ r, ([(.ref b29), (.ref b59), (.ref b89), (.ref b118)] : List Value).getD pg .null = .ref r ∧ ([(.ref b22), (.ref b29), (.ref b52), (.ref b59), (.ref b82), (.ref b89), (.ref b112), (.ref b118)] : List Value).getD (2 * pg + 1) .null = .ref r ∧ own_Len Z h135 r .long (own_lenT 4 lw pg) := by
      intro pg hp hq
      obtain rfl | rfl | rfl | rfl := own_lt4 hp
      · exact ⟨b29, rfl, rfl, own_Len.of (Arv.arh V135_4)⟩
      · exact ⟨b59, rfl, rfl, own_Len.of (Arv.arh V135_6)⟩
      · exact ⟨b89, rfl, rfl, own_Len.of (Arv.arh V135_8)⟩
      · exact ⟨b118, rfl, rfl, own_Len.of (Arv.arh V135_10)⟩
    exact ⟨rfl, N135, K135, b10, _, _, b12, _, _, b16, _, _, _, F135_0, F135_1, F135_2, V135_0, V135_1, V_b16_135, by rw [if_pos ht]; decide, H1, H2⟩
theorem own_ef_rmI_4_0 (m : MethodId) (y0 : Addr) (y1 : Int64) : entryFrame m #[(.ref y0), (.long y1)] 7 = mkF m 0 #[.val (.ref y0), .val (.long y1), .second, .unset, .unset, .unset, .unset] [] := by first | (simp [entryFrame, mkF, argsToLocals, Value.category]; done) | rfl
set_option maxRecDepth 65536 in
set_option maxHeartbeats 40000000 in
theorem rmI_4_0 (l : Launch) (Z : State) (a0 : Array Value) (hw : ∀ d ∈ tables_1, d.before a0 Z = true) (ws : List Jvm.Cond) (a : Addr) (q : Int64) (lw : Int32) (h0 : Heap) (n0 : Nat) (Z0 : n0 ≤ h0.size) (E_a : Exa Z h0 a "com/example/elderflower/elderflower/PagedWords") (g_a : n0 ≤ a) (F_size : Fld Z h0 a "com/example/elderflower/elderflower/PagedWords" "size" "J" (.long (0 : Int64))) (F_heads : Fld Z h0 a "com/example/elderflower/elderflower/PagedWords" "heads" "[[J" .null) (F_tails : Fld Z h0 a "com/example/elderflower/elderflower/PagedWords" "tails" "[[J" .null) (F_arrays : Fld Z h0 a "com/example/elderflower/elderflower/PagedWords" "arrays" "[[J" .null) (S_PAGE_SHIFT : Sta Z h0 "com/example/elderflower/elderflower/PagedWords" "PAGE_SHIFT" "I" (.int (15 : Int32))) (hpg : ((((q + (32768 : Int64)) - (1 : Int64)).toUInt64 >>> ((15 : Int32) &&& 0x3f).toInt64.toUInt64).toInt64).toInt32 = Int32.ofNat 4) (hlw : (q - Int64.ofNat ((4 - 1) * 32768)).toInt32 = lw) (hlb : own_LW lw) (ht : ¬ (32764 : Int32) < lw) :
    MetFree l (⟨"com/example/elderflower/elderflower/PagedWords", "<init>", "(J)V"⟩ : MethodName) (head1 (Jvm.Cond.code (⟨"com/example/elderflower/elderflower/PagedWords", "<init>", "(J)V"⟩ : MethodName) prog_35_method_1_code 7 none :: ws) ({ frames := 1, cells := 11, slots := 131088, locals := 15 } : Room)) (fun ar_ U => ar_ = #[(.ref a), (.long q)] ∧ Z.Warmed39 U.vm ∧ U.heap = h0) (fun _ _ _ _ _ => True) (fun _ U o U' => ∃ v L, o = .returned v ∧ QI Z a 4 lw h0 n0 v U'.heap L ∧ FrameEnd U o U' L ({ frames := 1, cells := 11, slots := 131088, locals := 15 } : Room).cells ({ frames := 1, cells := 11, slots := 131088, locals := 15 } : Room).slots) := by
  refine MetFree.of_bodySF (plainFor_of_name own_pn0) hisR ?_
  intro p e s m args below meth c s₁ Bd hml0 hP hK
  obtain ⟨rfl, hZ, hh⟩ := hP
  have hx := Bd.exec
  have hby := Bd.bytes
  have hml : c.maxLocals = 7 := hml0
  have hown : s.vm.findClass "com/example/elderflower/elderflower/PagedWords" = some m.cls := findClass_of_methodNamed Bd.named
  have hnm := (name_of_methodNamed Bd.named Bd.method).1
  have X0 : Stand p l e ({ frames := 1, cells := 11, slots := 131088, locals := 15 } : Room) s m #[(.ref a), (.long q)] below meth c s₁ [] 0 0 := Stand.of_body Bd
  have e0 : s₁.heap = h0 := by rw [← hh, Bd.state]; rfl
  have N0 := Fr.nil n0
  have pre0 : ∀ tt_, Steps p.tables e below (s₁.setTop (mkF m 0 #[.val (.ref a), .val (.long q), .second, .unset, .unset, .unset, .unset] [])) tt_ → Steps p.tables e below (s₁.setTop (entryFrame m #[(.ref a), (.long q)] 7)) tt_ := fun tt_ kk_ => castTop (own_ef_rmI_4_0 m a q) kk_
  obtain ⟨T1, X1, e1, st1⟩ := initO X0 hx hZ hown (hw _ (List.mem_of_getElem? (i := 8) rfl)) (hw _ (List.mem_of_getElem? (i := 9) rfl)) (hw _ (List.mem_of_getElem? (i := 10) rfl)) e0 (g := (mkF m 1 #[.val (.ref a), .val (.long q), .second, .unset, .unset, .unset, .unset] [(.ref a)])) rfl (by rw [hml]; rfl) rfl (hb hby own_d_prog_35_method_1_code_1) (by decide) (W := 0) (by show 2 * 0 + _ ≤ _; exact Nat.le_of_eq rfl) (by decide)
  obtain ⟨T2, X2, e2, st2⟩ := getS2 X1 hx hZ hown (host := "") (Or.inl (hw _ (List.mem_of_getElem? (i := 12) rfl))) Via.refl e1 S_PAGE_SHIFT (g := (mkF m 11 #[.val (.ref a), .val (.long q), .second, .unset, .unset, .unset, .unset] [(.long ((q + (32768 : Int64)) - (1 : Int64)))])) rfl (hb hby own_d_prog_35_method_1_code_11)
  have hpg' : (((((q + (32768 : Int64)) - (1 : Int64)).toUInt64 >>> ((15 : Int32) &&& 0x3f).toInt64.toUInt64).toInt64).toInt32) = (4 : Int32) := hpg
  have pre3 : ∀ tt_, Steps p.tables e below (T2.setTop (mkF m 16 #[.val (.ref a), .val (.long q), .second, .unset, .unset, .unset, .unset] [(.int (((((q + (32768 : Int64)) - (1 : Int64)).toUInt64 >>> ((15 : Int32) &&& 0x3f).toInt64.toUInt64).toInt64).toInt32))])) tt_ → Steps p.tables e below (s₁.setTop (entryFrame m #[(.ref a), (.long q)] 7)) tt_ := fun tt_ kk_ => pre0 tt_ (by
    show Steps p.tables e below (s₁.setTop (mkF m 0 #[.val (.ref a), .val (.long q), .second, .unset, .unset, .unset, .unset] [])) _
    refine XS.aloadN X0.here hx rfl (hb hby own_d_prog_35_method_1_code_0) rfl rfl ?_
    refine st1 _ ?_
    refine XS.lloadN X1.here hx rfl (hb hby own_d_prog_35_method_1_code_4) rfl ?_
    refine X1.ldc2Long hx hown (mvT hZ (hw _ (List.mem_of_getElem? (i := 11) rfl))) (g := (mkF m 5 #[.val (.ref a), .val (.long q), .second, .unset, .unset, .unset, .unset] [(.long q)])) rfl (hb hby own_d_prog_35_method_1_code_5) _ ?_
    refine XS.ladd X1.here hx rfl (hb hby own_d_prog_35_method_1_code_8) rfl ?_
    refine XS.lconst X1.here hx rfl (hb hby own_d_prog_35_method_1_code_9) ?_
    show Steps p.tables e below (T1.setTop (mkF m 10 #[.val (.ref a), .val (.long q), .second, .unset, .unset, .unset, .unset] [(.long (1 : Int64)), (.long (q + (32768 : Int64)))])) _
    refine XS.lsub X1.here hx rfl (hb hby own_d_prog_35_method_1_code_10) rfl ?_
    refine st2 _ ?_
    refine XS.lushr X2.here hx rfl (hb hby own_d_prog_35_method_1_code_14) rfl ?_
    refine XS.l2i X2.here hx rfl (hb hby own_d_prog_35_method_1_code_15) rfl ?_
    exact kk_)
  rw [hpg'] at pre3
  have fold4 : ((4 : Int32) - (1 : Int32)) = (3 : Int32) := by decide +kernel
  have fold5 : ((3 : Int32).toInt64) = (3 : Int64) := by decide +kernel
  obtain ⟨T6, X6, e6, st6⟩ := getS2 X2 hx hZ hown (host := "") (Or.inl (hw _ (List.mem_of_getElem? (i := 12) rfl))) Via.refl e2 S_PAGE_SHIFT (g := (mkF m 22 #[.val (.ref a), .val (.long q), .second, .val (.int (4 : Int32)), .unset, .unset, .unset] [(.long (3 : Int64)), (.long q)])) rfl (hb hby own_d_prog_35_method_1_code_22)
  have fold7 : ((3 : Int64) <<< ((15 : Int32) &&& 0x3f).toInt64) = (98304 : Int64) := by decide +kernel
  have hlw' : ((q - (98304 : Int64)).toInt32) = lw := by rw [← hlw]; rfl
  have pre8 : ∀ tt_, Steps p.tables e below (T6.setTop (mkF m 28 #[.val (.ref a), .val (.long q), .second, .val (.int (4 : Int32)), .unset, .unset, .unset] [(.int ((q - (98304 : Int64)).toInt32))])) tt_ → Steps p.tables e below (s₁.setTop (entryFrame m #[(.ref a), (.long q)] 7)) tt_ := fun tt_ kk_ => pre3 tt_ (by
    show Steps p.tables e below (T2.setTop (mkF m 16 #[.val (.ref a), .val (.long q), .second, .unset, .unset, .unset, .unset] [(.int (4 : Int32))])) _
    refine XS.istoreN X2.here hx rfl (hb hby own_d_prog_35_method_1_code_16) rfl (l' := #[.val (.ref a), .val (.long q), .second, .val (.int (4 : Int32)), .unset, .unset, .unset]) rfl ?_
    refine XS.lloadN X2.here hx rfl (hb hby own_d_prog_35_method_1_code_17) rfl ?_
    refine XS.iloadN X2.here hx rfl (hb hby own_d_prog_35_method_1_code_18) rfl ?_
    show Steps p.tables e below (T2.setTop (mkF m 19 #[.val (.ref a), .val (.long q), .second, .val (.int (4 : Int32)), .unset, .unset, .unset] [(.int (4 : Int32)), (.long q)])) _
    refine XS.iconst X2.here hx rfl (hb hby own_d_prog_35_method_1_code_19) ?_
    refine XS.isub X2.here hx rfl (hb hby own_d_prog_35_method_1_code_20) rfl ?_
    show Steps p.tables e below (T2.setTop (mkF m 21 #[.val (.ref a), .val (.long q), .second, .val (.int (4 : Int32)), .unset, .unset, .unset] [(.int ((4 : Int32) - (1 : Int32))), (.long q)])) _
    rw [fold4]
    show Steps p.tables e below (T2.setTop (mkF m 21 #[.val (.ref a), .val (.long q), .second, .val (.int (4 : Int32)), .unset, .unset, .unset] [(.int (3 : Int32)), (.long q)])) _
    refine XS.i2l X2.here hx rfl (hb hby own_d_prog_35_method_1_code_21) rfl ?_
    show Steps p.tables e below (T2.setTop (mkF m 22 #[.val (.ref a), .val (.long q), .second, .val (.int (4 : Int32)), .unset, .unset, .unset] [(.long ((3 : Int32).toInt64)), (.long q)])) _
    rw [fold5]
    show Steps p.tables e below (T2.setTop (mkF m 22 #[.val (.ref a), .val (.long q), .second, .val (.int (4 : Int32)), .unset, .unset, .unset] [(.long (3 : Int64)), (.long q)])) _
    refine st6 _ ?_
    refine XS.lshl X6.here hx rfl (hb hby own_d_prog_35_method_1_code_25) rfl ?_
    show Steps p.tables e below (T6.setTop (mkF m 26 #[.val (.ref a), .val (.long q), .second, .val (.int (4 : Int32)), .unset, .unset, .unset] [(.long ((3 : Int64) <<< ((15 : Int32) &&& 0x3f).toInt64)), (.long q)])) _
    rw [fold7]
    show Steps p.tables e below (T6.setTop (mkF m 26 #[.val (.ref a), .val (.long q), .second, .val (.int (4 : Int32)), .unset, .unset, .unset] [(.long (98304 : Int64)), (.long q)])) _
    refine XS.lsub X6.here hx rfl (hb hby own_d_prog_35_method_1_code_26) rfl ?_
    refine XS.l2i X6.here hx rfl (hb hby own_d_prog_35_method_1_code_27) rfl ?_
    exact kk_)
  rw [hlw'] at pre8
  obtain ⟨T9, h9, X9, e9, W9, st9⟩ := putF X6 hx hZ hown (host := "") (Or.inl (hw _ (List.mem_of_getElem? (i := 14) rfl))) Via.refl e6 F_size E_a (Or.inr ⟨(hw _ (List.mem_of_getElem? (i := 15) rfl)), rfl, hnm⟩) (hw _ (List.mem_of_getElem? (i := 3) rfl)) (ty := .long) (by decide) rfl rfl (g := (mkF m 32 #[.val (.ref a), .val (.long q), .second, .val (.int (4 : Int32)), .val (.int lw), .unset, .unset] [(.long q), (.ref a)])) rfl rfl (hb hby own_d_prog_35_method_1_code_32)
  have F9_0 := F_size.same W9
  have F9_1 := F_heads.other W9 (Or.inr (slot_ne (Or.inr (hw _ (List.mem_of_getElem? (i := 19) rfl))) (Or.inr (hw _ (List.mem_of_getElem? (i := 15) rfl))) (by decide) (t := (.array (.array .long))) (t' := .long) (by decide) (by decide)))
  have F9_2 := F_tails.other W9 (Or.inr (slot_ne (Or.inr (hw _ (List.mem_of_getElem? (i := 21) rfl))) (Or.inr (hw _ (List.mem_of_getElem? (i := 15) rfl))) (by decide) (t := (.array (.array .long))) (t' := .long) (by decide) (by decide)))
  have F9_3 := F_arrays.other W9 (Or.inr (slot_ne (Or.inr (hw _ (List.mem_of_getElem? (i := 23) rfl))) (Or.inr (hw _ (List.mem_of_getElem? (i := 15) rfl))) (by decide) (t := (.array (.array .long))) (t' := .long) (by decide) (by decide)))
  have X9_0 := E_a.wr W9
  have S9_0 := S_PAGE_SHIFT.wr W9
  have z9 : n0 ≤ h9.size := by rw [W9.size]; exact Z0
  have K9 : Keep h0 h9 [a] := (Keep.refl h0 [a]).wr W9 (Or.inl (by simp))
  have N9 := Fr.snoc X9 N0 g_a
  obtain ⟨T10, h10, k10, X10, e10, E10, A10, O10, st10⟩ := own_newRA X9 hx hZ hown (hw _ (List.mem_of_getElem? (i := 16) rfl)) (hw _ (List.mem_of_getElem? (i := 17) rfl)) (by decide +kernel) e9 (g := (mkF m 37 #[.val (.ref a), .val (.long q), .second, .val (.int (4 : Int32)), .val (.int lw), .unset, .unset] [(.int (4 : Int32)), (.ref a)])) rfl (hb hby own_d_prog_35_method_1_code_37) rfl (by decide) (cap := 4) (by decide) (by decide) (by decide) (by decide)
  obtain ⟨b10, g10⟩ : ∃ z, z = h9.size := ⟨_, rfl⟩
  rw [← g10] at A10 st10
  have g_b10 : n0 ≤ b10 := Nat.le_trans z9 (Nat.le_of_eq g10.symm)
  have sz_b10 : h0.size ≤ b10 := Nat.le_trans K9.1 (Nat.le_of_eq g10.symm)
  have F10_0 := F9_0.ext E10
  have F10_1 := F9_1.ext E10
  have F10_2 := F9_2.ext E10
  have F10_3 := F9_3.ext E10
  have X10_0 := X9_0.ext E10
  have S10_0 := S9_0.ext E10
  have z10 : n0 ≤ h10.size := Nat.le_trans z9 E10.1
  have K10 : Keep h0 h10 [a] := K9.ext E10
  have V_b10 : Arv Z h10 b10 k10 (.array .long) (4 : Int32) [.null, .null, .null, .null] .null := (Arv.new A10 (by decide)).pad (pad_rep [] .null 4)
  obtain ⟨T11, h11, X11, e11, W11, st11⟩ := putF X10 hx hZ hown (host := "") (Or.inl (hw _ (List.mem_of_getElem? (i := 18) rfl))) Via.refl e10 F10_1 X10_0 (Or.inr ⟨(hw _ (List.mem_of_getElem? (i := 19) rfl)), rfl, hnm⟩) (hw _ (List.mem_of_getElem? (i := 3) rfl)) (ty := (.array (.array .long))) (by decide) rfl rfl (g := (mkF m 40 #[.val (.ref a), .val (.long q), .second, .val (.int (4 : Int32)), .val (.int lw), .unset, .unset] [(.ref b10), (.ref a)])) rfl rfl (hb hby own_d_prog_35_method_1_code_40)
  have F11_0 := F10_0.other W11 (Or.inr (slot_ne (Or.inr (hw _ (List.mem_of_getElem? (i := 15) rfl))) (Or.inr (hw _ (List.mem_of_getElem? (i := 19) rfl))) (by decide) (t := .long) (t' := (.array (.array .long))) (by decide) (by decide)))
  have F11_1 := F10_1.same W11
  have F11_2 := F10_2.other W11 (Or.inr (slot_ne (Or.inr (hw _ (List.mem_of_getElem? (i := 21) rfl))) (Or.inr (hw _ (List.mem_of_getElem? (i := 19) rfl))) (by decide) (t := (.array (.array .long))) (t' := (.array (.array .long))) (by decide) (by decide)))
  have F11_3 := F10_3.other W11 (Or.inr (slot_ne (Or.inr (hw _ (List.mem_of_getElem? (i := 23) rfl))) (Or.inr (hw _ (List.mem_of_getElem? (i := 19) rfl))) (by decide) (t := (.array (.array .long))) (t' := (.array (.array .long))) (by decide) (by decide)))
  have X11_0 := X10_0.wr W11
  have S11_0 := S10_0.wr W11
  have ne_a_b10 : a ≠ b10 := Nat.ne_of_lt (Nat.lt_of_lt_of_le (X9_0).lt (Nat.le_of_eq g10.symm))
  have V11_0 := V_b10.other W11 (Ne.symm ne_a_b10)
  have z11 : n0 ≤ h11.size := by rw [W11.size]; exact z10
  have K11 : Keep h0 h11 [a] := K10.wr W11 (Or.inl (by simp))
  have N11 := Fr.snoc X11 N9 g_a
  obtain ⟨T12, h12, k12, X12, e12, E12, A12, O12, st12⟩ := own_newRA X11 hx hZ hown (hw _ (List.mem_of_getElem? (i := 16) rfl)) (hw _ (List.mem_of_getElem? (i := 17) rfl)) (by decide +kernel) e11 (g := (mkF m 45 #[.val (.ref a), .val (.long q), .second, .val (.int (4 : Int32)), .val (.int lw), .unset, .unset] [(.int (4 : Int32)), (.ref a)])) rfl (hb hby own_d_prog_35_method_1_code_45) rfl (by decide) (cap := 4) (by decide) (by decide) (by decide) (by decide)
  obtain ⟨b12, g12⟩ : ∃ z, z = h11.size := ⟨_, rfl⟩
  rw [← g12] at A12 st12
  have g_b12 : n0 ≤ b12 := Nat.le_trans z11 (Nat.le_of_eq g12.symm)
  have sz_b12 : h0.size ≤ b12 := Nat.le_trans K11.1 (Nat.le_of_eq g12.symm)
  have F12_0 := F11_0.ext E12
  have F12_1 := F11_1.ext E12
  have F12_2 := F11_2.ext E12
  have F12_3 := F11_3.ext E12
  have X12_0 := X11_0.ext E12
  have S12_0 := S11_0.ext E12
  have V12_0 := V11_0.ext E12
  have z12 : n0 ≤ h12.size := Nat.le_trans z11 E12.1
  have K12 : Keep h0 h12 [a] := K11.ext E12
  have V_b12 : Arv Z h12 b12 k12 (.array .long) (4 : Int32) [.null, .null, .null, .null] .null := (Arv.new A12 (by decide)).pad (pad_rep [] .null 4)
  obtain ⟨T13, h13, X13, e13, W13, st13⟩ := putF X12 hx hZ hown (host := "") (Or.inl (hw _ (List.mem_of_getElem? (i := 20) rfl))) Via.refl e12 F12_2 X12_0 (Or.inr ⟨(hw _ (List.mem_of_getElem? (i := 21) rfl)), rfl, hnm⟩) (hw _ (List.mem_of_getElem? (i := 3) rfl)) (ty := (.array (.array .long))) (by decide) rfl rfl (g := (mkF m 48 #[.val (.ref a), .val (.long q), .second, .val (.int (4 : Int32)), .val (.int lw), .unset, .unset] [(.ref b12), (.ref a)])) rfl rfl (hb hby own_d_prog_35_method_1_code_48)
  have F13_0 := F12_0.other W13 (Or.inr (slot_ne (Or.inr (hw _ (List.mem_of_getElem? (i := 15) rfl))) (Or.inr (hw _ (List.mem_of_getElem? (i := 21) rfl))) (by decide) (t := .long) (t' := (.array (.array .long))) (by decide) (by decide)))
  have F13_1 := F12_1.other W13 (Or.inr (slot_ne (Or.inr (hw _ (List.mem_of_getElem? (i := 19) rfl))) (Or.inr (hw _ (List.mem_of_getElem? (i := 21) rfl))) (by decide) (t := (.array (.array .long))) (t' := (.array (.array .long))) (by decide) (by decide)))
  have F13_2 := F12_2.same W13
  have F13_3 := F12_3.other W13 (Or.inr (slot_ne (Or.inr (hw _ (List.mem_of_getElem? (i := 23) rfl))) (Or.inr (hw _ (List.mem_of_getElem? (i := 21) rfl))) (by decide) (t := (.array (.array .long))) (t' := (.array (.array .long))) (by decide) (by decide)))
  have X13_0 := X12_0.wr W13
  have S13_0 := S12_0.wr W13
  have V13_0 := V12_0.other W13 (Ne.symm ne_a_b10)
  have ne_a_b12 : a ≠ b12 := Nat.ne_of_lt (Nat.lt_of_lt_of_le (X11_0).lt (Nat.le_of_eq g12.symm))
  have V13_1 := V_b12.other W13 (Ne.symm ne_a_b12)
  have z13 : n0 ≤ h13.size := by rw [W13.size]; exact z12
  have K13 : Keep h0 h13 [a] := K12.wr W13 (Or.inl (by simp))
  have N13 := Fr.snoc X13 N11 g_a
  have fold14 : ((2 : Int32) * (4 : Int32)) = (8 : Int32) := by decide +kernel
  have fold15 : ((8 : Int32) - (1 : Int32)) = (7 : Int32) := by decide +kernel
  obtain ⟨T16, h16, k16, X16, e16, E16, A16, O16, st16⟩ := own_newRA X13 hx hZ hown (hw _ (List.mem_of_getElem? (i := 16) rfl)) (hw _ (List.mem_of_getElem? (i := 17) rfl)) (by decide +kernel) e13 (g := (mkF m 69 #[.val (.ref a), .val (.long q), .second, .val (.int (4 : Int32)), .val (.int lw), .unset, .unset] [(.int (7 : Int32)), (.ref a)])) rfl (hb hby own_d_prog_35_method_1_code_69) rfl (by decide) (cap := 7) (by decide) (by decide) (by decide) (by decide)
  obtain ⟨b16, g16⟩ : ∃ z, z = h13.size := ⟨_, rfl⟩
  rw [← g16] at A16 st16
  have g_b16 : n0 ≤ b16 := Nat.le_trans z13 (Nat.le_of_eq g16.symm)
  have sz_b16 : h0.size ≤ b16 := Nat.le_trans K13.1 (Nat.le_of_eq g16.symm)
  have F16_0 := F13_0.ext E16
  have F16_1 := F13_1.ext E16
  have F16_2 := F13_2.ext E16
  have F16_3 := F13_3.ext E16
  have X16_0 := X13_0.ext E16
  have S16_0 := S13_0.ext E16
  have V16_0 := V13_0.ext E16
  have V16_1 := V13_1.ext E16
  have z16 : n0 ≤ h16.size := Nat.le_trans z13 E16.1
  have K16 : Keep h0 h16 [a] := K13.ext E16
  have V_b16 : Arv Z h16 b16 k16 (.array .long) (7 : Int32) [.null, .null, .null, .null, .null, .null, .null] .null := (Arv.new A16 (by decide)).pad (pad_rep [] .null 7)
  obtain ⟨T17, h17, X17, e17, W17, st17⟩ := putF X16 hx hZ hown (host := "") (Or.inl (hw _ (List.mem_of_getElem? (i := 22) rfl))) Via.refl e16 F16_3 X16_0 (Or.inr ⟨(hw _ (List.mem_of_getElem? (i := 23) rfl)), rfl, hnm⟩) (hw _ (List.mem_of_getElem? (i := 3) rfl)) (ty := (.array (.array .long))) (by decide) rfl rfl (g := (mkF m 72 #[.val (.ref a), .val (.long q), .second, .val (.int (4 : Int32)), .val (.int lw), .unset, .unset] [(.ref b16), (.ref a)])) rfl rfl (hb hby own_d_prog_35_method_1_code_72)
  have F17_0 := F16_0.other W17 (Or.inr (slot_ne (Or.inr (hw _ (List.mem_of_getElem? (i := 15) rfl))) (Or.inr (hw _ (List.mem_of_getElem? (i := 23) rfl))) (by decide) (t := .long) (t' := (.array (.array .long))) (by decide) (by decide)))
  have F17_1 := F16_1.other W17 (Or.inr (slot_ne (Or.inr (hw _ (List.mem_of_getElem? (i := 19) rfl))) (Or.inr (hw _ (List.mem_of_getElem? (i := 23) rfl))) (by decide) (t := (.array (.array .long))) (t' := (.array (.array .long))) (by decide) (by decide)))
  have F17_2 := F16_2.other W17 (Or.inr (slot_ne (Or.inr (hw _ (List.mem_of_getElem? (i := 21) rfl))) (Or.inr (hw _ (List.mem_of_getElem? (i := 23) rfl))) (by decide) (t := (.array (.array .long))) (t' := (.array (.array .long))) (by decide) (by decide)))
  have F17_3 := F16_3.same W17
  have X17_0 := X16_0.wr W17
  have S17_0 := S16_0.wr W17
  have V17_0 := V16_0.other W17 (Ne.symm ne_a_b10)
  have V17_1 := V16_1.other W17 (Ne.symm ne_a_b12)
  have ne_a_b16 : a ≠ b16 := Nat.ne_of_lt (Nat.lt_of_lt_of_le (X13_0).lt (Nat.le_of_eq g16.symm))
  have V17_2 := V_b16.other W17 (Ne.symm ne_a_b16)
  have z17 : n0 ≤ h17.size := by rw [W17.size]; exact z16
  have K17 : Keep h0 h17 [a] := K16.wr W17 (Or.inl (by simp))
  have N17 := Fr.snoc X17 N13 g_a
  have pre18 : ∀ tt_, Steps p.tables e below (T17.setTop (mkF m 78 #[.val (.ref a), .val (.long q), .second, .val (.int (4 : Int32)), .val (.int lw), .val (.int (0 : Int32)), .unset] [])) tt_ → Steps p.tables e below (s₁.setTop (entryFrame m #[(.ref a), (.long q)] 7)) tt_ := fun tt_ kk_ => pre8 tt_ (by
    show Steps p.tables e below (T6.setTop (mkF m 28 #[.val (.ref a), .val (.long q), .second, .val (.int (4 : Int32)), .unset, .unset, .unset] [(.int lw)])) _
    refine XS.istore X6.here hx rfl (hb hby own_d_prog_35_method_1_code_28) rfl (l' := #[.val (.ref a), .val (.long q), .second, .val (.int (4 : Int32)), .val (.int lw), .unset, .unset]) rfl ?_
    refine XS.aloadN X6.here hx rfl (hb hby own_d_prog_35_method_1_code_30) rfl rfl ?_
    refine XS.lloadN X6.here hx rfl (hb hby own_d_prog_35_method_1_code_31) rfl ?_
    refine st9 _ ?_
    refine XS.aloadN X9.here hx rfl (hb hby own_d_prog_35_method_1_code_35) rfl rfl ?_
    refine XS.iloadN X9.here hx rfl (hb hby own_d_prog_35_method_1_code_36) rfl ?_
    refine st10 _ ?_
    refine st11 _ ?_
    refine XS.aloadN X11.here hx rfl (hb hby own_d_prog_35_method_1_code_43) rfl rfl ?_
    show Steps p.tables e below (T11.setTop (mkF m 44 #[.val (.ref a), .val (.long q), .second, .val (.int (4 : Int32)), .val (.int lw), .unset, .unset] [(.ref a)])) _
    refine XS.iloadN X11.here hx rfl (hb hby own_d_prog_35_method_1_code_44) rfl ?_
    refine st12 _ ?_
    refine st13 _ ?_
    refine XS.aloadN X13.here hx rfl (hb hby own_d_prog_35_method_1_code_51) rfl rfl ?_
    refine XS.iconst X13.here hx rfl (hb hby own_d_prog_35_method_1_code_52) ?_
    refine XS.iloadN X13.here hx rfl (hb hby own_d_prog_35_method_1_code_53) rfl ?_
    refine XS.imul X13.here hx rfl (hb hby own_d_prog_35_method_1_code_54) rfl ?_
    show Steps p.tables e below (T13.setTop (mkF m 55 #[.val (.ref a), .val (.long q), .second, .val (.int (4 : Int32)), .val (.int lw), .unset, .unset] [(.int ((2 : Int32) * (4 : Int32))), (.ref a)])) _
    rw [fold14]
    show Steps p.tables e below (T13.setTop (mkF m 55 #[.val (.ref a), .val (.long q), .second, .val (.int (4 : Int32)), .val (.int lw), .unset, .unset] [(.int (8 : Int32)), (.ref a)])) _
    refine XS.iload X13.here hx rfl (hb hby own_d_prog_35_method_1_code_55) rfl ?_
    show Steps p.tables e below (T13.setTop (mkF m 57 #[.val (.ref a), .val (.long q), .second, .val (.int (4 : Int32)), .val (.int lw), .unset, .unset] [(.int lw), (.int (8 : Int32)), (.ref a)])) _
    refine XS.sipush X13.here hx rfl (hb hby own_d_prog_35_method_1_code_57) ?_
    refine XS.icmpYes X13.here hx rfl (pc0 := 60) (pc' := 67) rfl (hb hby own_d_prog_35_method_1_code_60) rfl (flt (ht : ¬ ((32764 : Int32) < lw))).2.2.2 (by decide) (by decide) ?_
    refine XS.iconst X13.here hx rfl (hb hby own_d_prog_35_method_1_code_67) ?_
    refine XS.isub X13.here hx rfl (hb hby own_d_prog_35_method_1_code_68) rfl ?_
    show Steps p.tables e below (T13.setTop (mkF m 69 #[.val (.ref a), .val (.long q), .second, .val (.int (4 : Int32)), .val (.int lw), .unset, .unset] [(.int ((8 : Int32) - (1 : Int32))), (.ref a)])) _
    rw [fold15]
    show Steps p.tables e below (T13.setTop (mkF m 69 #[.val (.ref a), .val (.long q), .second, .val (.int (4 : Int32)), .val (.int lw), .unset, .unset] [(.int (7 : Int32)), (.ref a)])) _
    refine st16 _ ?_
    refine st17 _ ?_
    refine XS.iconst X17.here hx rfl (hb hby own_d_prog_35_method_1_code_75) ?_
    refine XS.istore X17.here hx rfl (hb hby own_d_prog_35_method_1_code_76) rfl (l' := #[.val (.ref a), .val (.long q), .second, .val (.int (4 : Int32)), .val (.int lw), .val (.int (0 : Int32)), .unset]) rfl ?_
    exact kk_)
  have fold19 : ((4 : Int32) - (1 : Int32)) = (3 : Int32) := by decide +kernel
  obtain ⟨T20, X20, e20, st20⟩ := getF X17 hx hZ hown (host := "") (Or.inl (hw _ (List.mem_of_getElem? (i := 18) rfl))) Via.refl e17 F17_1 (g := (mkF m 102 #[.val (.ref a), .val (.long q), .second, .val (.int (4 : Int32)), .val (.int lw), .val (.int (0 : Int32)), .val (.int (32768 : Int32))] [(.ref a)])) rfl rfl (hb hby own_d_prog_35_method_1_code_102)
  obtain ⟨_, _, ⟨T21, L21, k21, n21⟩, -, X21, ⟨Lc21, hQ21, l21, y21, z21⟩, st21⟩ := Jvm.LawKit.callS X20 hx (y := (⟨"java/lang/Math", "min", "(II)I"⟩ : MethodName)) hown (mvT hZ (hw _ (List.mem_of_getElem? (i := 24) rfl))) (mvT hZ (hw _ (List.mem_of_getElem? (i := 25) rfl))) (mvT hZ (hw _ (List.mem_of_getElem? (i := 26) rfl))) (mvT hZ (hw _ (List.mem_of_getElem? (i := 27) rfl))) (by decide) (backOf (W := 2) (rmMin l Z a0 hw [] (32768 : Int32) (32764 : Int32) (32764 : Int32) h17 n0 z17 (by decide)) hZ (hw _ (List.mem_of_getElem? (i := 27) rfl)) (hw _ (List.mem_of_getElem? (i := 26) rfl)) (by decide) (by decide)) (g := (mkF m 112 #[.val (.ref a), .val (.long q), .second, .val (.int (4 : Int32)), .val (.int lw), .val (.int (0 : Int32)), .val (.int (32768 : Int32))] [(.int (32764 : Int32)), (.int (32768 : Int32)), (.int (0 : Int32)), (.ref b10)])) rfl (by rw [hml]; rfl) (argsL := [(.int (32768 : Int32)), (.int (32764 : Int32))]) (rest := [(.int (0 : Int32)), (.ref b10)]) (lenOf own_pd0 rfl) rfl (by show 2 * 0 + _ ≤ _; exact Nat.le_of_eq rfl) (hb hby own_d_prog_35_method_1_code_112) (fun _ _ => ⟨rfl, e20, (by decide : 3 + 0 ≤ _), (by decide : 15 + 0 ≤ _)⟩)
  dsimp only [Pt.U, Pt.locs, Pt.cells, Pt.slots] at X21 l21 y21 z21 st21 hQ21
  replace l21 := l21.symm; subst l21 y21 z21
  obtain ⟨rfl, N21q, e21⟩ := hQ21
  have N21 := Fr.app N17 N21q
  obtain ⟨T22, h22, k22, X22, e22, E22, A22, Ea22, st22⟩ := newPE X21 hx hZ (hw _ (List.mem_of_getElem? (i := 28) rfl)) e21 (g := (mkF m 115 #[.val (.ref a), .val (.long q), .second, .val (.int (4 : Int32)), .val (.int lw), .val (.int (0 : Int32)), .val (.int (32768 : Int32))] [(.int (32764 : Int32)), (.int (0 : Int32)), (.ref b10)])) rfl (hb hby own_d_prog_35_method_1_code_115) rfl (by decide) (cap := 32764) (by decide) (by decide) (by decide) (by decide) (ad := "[J") (by decide +kernel)
  obtain ⟨b22, g22⟩ : ∃ z, z = h17.size := ⟨_, rfl⟩
  rw [← g22] at A22 st22 Ea22
  have g_b22 : n0 ≤ b22 := Nat.le_trans z17 (Nat.le_of_eq g22.symm)
  have sz_b22 : h0.size ≤ b22 := Nat.le_trans K17.1 (Nat.le_of_eq g22.symm)
  have F22_0 := F17_0.ext E22
  have F22_1 := F17_1.ext E22
  have F22_2 := F17_2.ext E22
  have F22_3 := F17_3.ext E22
  have X22_0 := X17_0.ext E22
  have S22_0 := S17_0.ext E22
  have V22_0 := V17_0.ext E22
  have V22_1 := V17_1.ext E22
  have V22_2 := V17_2.ext E22
  have z22 : n0 ≤ h22.size := Nat.le_trans z17 E22.1
  have K22 : Keep h0 h22 [a] := K17.ext E22
  have V_b22 : Arv Z h22 b22 k22 .long (32764 : Int32) [] (.long (0 : Int64)) := (Arv.new A22 (by decide)).pad (pad_rep [] (.long (0 : Int64)) 0)
  obtain ⟨cl23, Ar23, q23, S23, M23, H23, G23⟩ := id V22_0
  have hin23 : ¬ ((0 : Int32) < 0 ∨ cl23.slots.size ≤ ((0 : Int32)).toNatClampNeg) := inb_of S23 ⟨by decide, by decide⟩
  obtain ⟨T24, h24, X24, e24, W24, st24⟩ := stR X22 hx hZ e22 Ar23 (j := (0 : Int32)) hin23 rfl (own_stoA Ar23 q23 O10 (Ins.self Ea22)) (g := (mkF m 117 #[.val (.ref a), .val (.long q), .second, .val (.int (4 : Int32)), .val (.int lw), .val (.int (0 : Int32)), .val (.int (32768 : Int32))] [(.ref b22), (.int (0 : Int32)), (.ref b10)])) rfl rfl (hb hby own_d_prog_35_method_1_code_117)
  have V_b10_24 : Arv Z h24 b10 k10 (.array .long) (4 : Int32) [(.ref b22), .null, .null, .null] .null := Arv.set Ar23 q23 S23 M23 H23 G23 rfl W24 0 rfl (Nat.le_of_ble_eq_true rfl)
  have F24_0 := F22_0.other W24 (Or.inl ne_a_b10)
  have F24_1 := F22_1.other W24 (Or.inl ne_a_b10)
  have F24_2 := F22_2.other W24 (Or.inl ne_a_b10)
  have F24_3 := F22_3.other W24 (Or.inl ne_a_b10)
  have X24_0 := X22_0.wr W24
  have X24_1 := Ea22.wr W24
  have S24_0 := S22_0.wr W24
  have ne_b10_b12 : b10 ≠ b12 := Nat.ne_of_lt (Nat.lt_of_lt_of_le (V11_0).lt (Nat.le_of_eq g12.symm))
  have V24_1 := V22_1.other W24 (Ne.symm ne_b10_b12)
  have ne_b10_b16 : b10 ≠ b16 := Nat.ne_of_lt (Nat.lt_of_lt_of_le (V13_0).lt (Nat.le_of_eq g16.symm))
  have V24_2 := V22_2.other W24 (Ne.symm ne_b10_b16)
  have ne_b10_b22 : b10 ≠ b22 := Nat.ne_of_lt (Nat.lt_of_lt_of_le (V17_0).lt (Nat.le_of_eq g22.symm))
  have V24_3 := V_b22.other W24 (Ne.symm ne_b10_b22)
  have z24 : n0 ≤ h24.size := by rw [W24.size]; exact z22
  have K24 : Keep h0 h24 [a] := K22.wr W24 (Or.inr sz_b10)
  have N24 := Fr.snoc X24 N21 g_b10
  have pre25 : ∀ tt_, Steps p.tables e below (T24.setTop (mkF m 118 #[.val (.ref a), .val (.long q), .second, .val (.int (4 : Int32)), .val (.int lw), .val (.int (0 : Int32)), .val (.int (32768 : Int32))] [])) tt_ → Steps p.tables e below (s₁.setTop (entryFrame m #[(.ref a), (.long q)] 7)) tt_ := fun tt_ kk_ => pre18 tt_ (by
    show Steps p.tables e below (T17.setTop (mkF m 78 #[.val (.ref a), .val (.long q), .second, .val (.int (4 : Int32)), .val (.int lw), .val (.int (0 : Int32)), .unset] [])) _
    refine XS.iload X17.here hx rfl (hb hby own_d_prog_35_method_1_code_78) rfl ?_
    refine XS.iloadN X17.here hx rfl (hb hby own_d_prog_35_method_1_code_80) rfl ?_
    refine XS.icmpNo X17.here hx rfl (hb hby own_d_prog_35_method_1_code_81) rfl (tlt ((by decide) : (0 : Int32) < (4 : Int32))).2.1 ?_
    refine XS.iload X17.here hx rfl (hb hby own_d_prog_35_method_1_code_84) rfl ?_
    refine XS.iloadN X17.here hx rfl (hb hby own_d_prog_35_method_1_code_86) rfl ?_
    refine XS.iconst X17.here hx rfl (hb hby own_d_prog_35_method_1_code_87) ?_
    show Steps p.tables e below (T17.setTop (mkF m 88 #[.val (.ref a), .val (.long q), .second, .val (.int (4 : Int32)), .val (.int lw), .val (.int (0 : Int32)), .unset] [(.int (1 : Int32)), (.int (4 : Int32)), (.int (0 : Int32))])) _
    refine XS.isub X17.here hx rfl (hb hby own_d_prog_35_method_1_code_88) rfl ?_
    show Steps p.tables e below (T17.setTop (mkF m 89 #[.val (.ref a), .val (.long q), .second, .val (.int (4 : Int32)), .val (.int lw), .val (.int (0 : Int32)), .unset] [(.int ((4 : Int32) - (1 : Int32))), (.int (0 : Int32))])) _
    rw [fold19]
    show Steps p.tables e below (T17.setTop (mkF m 89 #[.val (.ref a), .val (.long q), .second, .val (.int (4 : Int32)), .val (.int lw), .val (.int (0 : Int32)), .unset] [(.int (3 : Int32)), (.int (0 : Int32))])) _
    refine XS.icmpNo X17.here hx rfl (hb hby own_d_prog_35_method_1_code_89) rfl (tlt ((by decide) : (0 : Int32) < (3 : Int32))).2.1 ?_
    refine X17.ldcInt hx hown (mvT hZ (hw _ (List.mem_of_getElem? (i := 52) rfl))) (g := (mkF m 92 #[.val (.ref a), .val (.long q), .second, .val (.int (4 : Int32)), .val (.int lw), .val (.int (0 : Int32)), .unset] [])) rfl (hb hby own_d_prog_35_method_1_code_92) _ ?_
    refine XS.goto X17.here hx rfl (pc0 := 94) (pc' := 99) rfl (hb hby own_d_prog_35_method_1_code_94) (by decide) (by decide) ?_
    refine XS.istore X17.here hx rfl (hb hby own_d_prog_35_method_1_code_99) rfl (l' := #[.val (.ref a), .val (.long q), .second, .val (.int (4 : Int32)), .val (.int lw), .val (.int (0 : Int32)), .val (.int (32768 : Int32))]) rfl ?_
    refine XS.aloadN X17.here hx rfl (hb hby own_d_prog_35_method_1_code_101) rfl rfl ?_
    refine st20 _ ?_
    show Steps p.tables e below (T20.setTop (mkF m 105 #[.val (.ref a), .val (.long q), .second, .val (.int (4 : Int32)), .val (.int lw), .val (.int (0 : Int32)), .val (.int (32768 : Int32))] [(.ref b10)])) _
    refine XS.iload X20.here hx rfl (hb hby own_d_prog_35_method_1_code_105) rfl ?_
    refine XS.iload X20.here hx rfl (hb hby own_d_prog_35_method_1_code_107) rfl ?_
    refine XS.sipush X20.here hx rfl (hb hby own_d_prog_35_method_1_code_109) ?_
    show Steps p.tables e below (T20.setTop (mkF m 112 #[.val (.ref a), .val (.long q), .second, .val (.int (4 : Int32)), .val (.int lw), .val (.int (0 : Int32)), .val (.int (32768 : Int32))] [(.int (32764 : Int32)), (.int (32768 : Int32)), (.int (0 : Int32)), (.ref b10)])) _
    refine st21 _ ?_
    refine st22 _ ?_
    refine st24 _ ?_
    exact kk_)
  obtain ⟨T26, X26, e26, st26⟩ := getF X24 hx hZ hown (host := "") (Or.inl (hw _ (List.mem_of_getElem? (i := 20) rfl))) Via.refl e24 F24_2 (g := (mkF m 119 #[.val (.ref a), .val (.long q), .second, .val (.int (4 : Int32)), .val (.int lw), .val (.int (0 : Int32)), .val (.int (32768 : Int32))] [(.ref a)])) rfl rfl (hb hby own_d_prog_35_method_1_code_119)
  have fold27 : ((32768 : Int32) - (32764 : Int32)) = (4 : Int32) := by decide +kernel
  obtain ⟨_, _, ⟨T28, L28, k28, n28⟩, -, X28, ⟨Lc28, hQ28, l28, y28, z28⟩, st28⟩ := Jvm.LawKit.callS X26 hx (y := (⟨"java/lang/Math", "max", "(II)I"⟩ : MethodName)) hown (mvT hZ (hw _ (List.mem_of_getElem? (i := 30) rfl))) (mvT hZ (hw _ (List.mem_of_getElem? (i := 31) rfl))) (mvT hZ (hw _ (List.mem_of_getElem? (i := 26) rfl))) (mvT hZ (hw _ (List.mem_of_getElem? (i := 32) rfl))) (by decide) (backOf (W := 2) (rmMax l Z a0 hw [] (4 : Int32) (0 : Int32) (4 : Int32) h24 n0 z24 (by decide)) hZ (hw _ (List.mem_of_getElem? (i := 32) rfl)) (hw _ (List.mem_of_getElem? (i := 26) rfl)) (by decide) (by decide)) (g := (mkF m 131 #[.val (.ref a), .val (.long q), .second, .val (.int (4 : Int32)), .val (.int lw), .val (.int (0 : Int32)), .val (.int (32768 : Int32))] [(.int (0 : Int32)), (.int (4 : Int32)), (.int (0 : Int32)), (.ref b12)])) rfl (by rw [hml]; rfl) (argsL := [(.int (4 : Int32)), (.int (0 : Int32))]) (rest := [(.int (0 : Int32)), (.ref b12)]) (lenOf own_pd0 rfl) rfl (by show 2 * 0 + _ ≤ _; exact Nat.le_of_eq rfl) (hb hby own_d_prog_35_method_1_code_131) (fun _ _ => ⟨rfl, e26, (by decide : 4 + 0 ≤ _), (by decide : 32779 + 0 ≤ _)⟩)
  dsimp only [Pt.U, Pt.locs, Pt.cells, Pt.slots] at X28 l28 y28 z28 st28 hQ28
  replace l28 := l28.symm; subst l28 y28 z28
  obtain ⟨rfl, N28q, e28⟩ := hQ28
  have N28 := Fr.app N24 N28q
  obtain ⟨T29, h29, k29, X29, e29, E29, A29, Ea29, st29⟩ := newPE X28 hx hZ (hw _ (List.mem_of_getElem? (i := 28) rfl)) e28 (g := (mkF m 134 #[.val (.ref a), .val (.long q), .second, .val (.int (4 : Int32)), .val (.int lw), .val (.int (0 : Int32)), .val (.int (32768 : Int32))] [(.int (4 : Int32)), (.int (0 : Int32)), (.ref b12)])) rfl (hb hby own_d_prog_35_method_1_code_134) rfl (by decide) (cap := 4) (by decide) (by decide) (by decide) (by decide) (ad := "[J") (by decide +kernel)
  obtain ⟨b29, g29⟩ : ∃ z, z = h24.size := ⟨_, rfl⟩
  rw [← g29] at A29 st29 Ea29
  have g_b29 : n0 ≤ b29 := Nat.le_trans z24 (Nat.le_of_eq g29.symm)
  have sz_b29 : h0.size ≤ b29 := Nat.le_trans K24.1 (Nat.le_of_eq g29.symm)
  have F29_0 := F24_0.ext E29
  have F29_1 := F24_1.ext E29
  have F29_2 := F24_2.ext E29
  have F29_3 := F24_3.ext E29
  have X29_0 := X24_0.ext E29
  have X29_1 := X24_1.ext E29
  have S29_0 := S24_0.ext E29
  have V29_0 := V_b10_24.ext E29
  have V29_1 := V24_1.ext E29
  have V29_2 := V24_2.ext E29
  have V29_3 := V24_3.ext E29
  have z29 : n0 ≤ h29.size := Nat.le_trans z24 E29.1
  have K29 : Keep h0 h29 [a] := K24.ext E29
  have V_b29 : Arv Z h29 b29 k29 .long (4 : Int32) [] (.long (0 : Int64)) := (Arv.new A29 (by decide)).pad (pad_rep [] (.long (0 : Int64)) 0)
  obtain ⟨cl30, Ar30, q30, S30, M30, H30, G30⟩ := id V29_1
  have hin30 : ¬ ((0 : Int32) < 0 ∨ cl30.slots.size ≤ ((0 : Int32)).toNatClampNeg) := inb_of S30 ⟨by decide, by decide⟩
  obtain ⟨T31, h31, X31, e31, W31, st31⟩ := stR X29 hx hZ e29 Ar30 (j := (0 : Int32)) hin30 rfl (own_stoA Ar30 q30 O12 (Ins.self Ea29)) (g := (mkF m 136 #[.val (.ref a), .val (.long q), .second, .val (.int (4 : Int32)), .val (.int lw), .val (.int (0 : Int32)), .val (.int (32768 : Int32))] [(.ref b29), (.int (0 : Int32)), (.ref b12)])) rfl rfl (hb hby own_d_prog_35_method_1_code_136)
  have V_b12_31 : Arv Z h31 b12 k12 (.array .long) (4 : Int32) [(.ref b29), .null, .null, .null] .null := Arv.set Ar30 q30 S30 M30 H30 G30 rfl W31 0 rfl (Nat.le_of_ble_eq_true rfl)
  have F31_0 := F29_0.other W31 (Or.inl ne_a_b12)
  have F31_1 := F29_1.other W31 (Or.inl ne_a_b12)
  have F31_2 := F29_2.other W31 (Or.inl ne_a_b12)
  have F31_3 := F29_3.other W31 (Or.inl ne_a_b12)
  have X31_0 := X29_0.wr W31
  have X31_1 := X29_1.wr W31
  have X31_2 := Ea29.wr W31
  have S31_0 := S29_0.wr W31
  have V31_0 := V29_0.other W31 ne_b10_b12
  have ne_b12_b16 : b12 ≠ b16 := Nat.ne_of_lt (Nat.lt_of_lt_of_le (V13_1).lt (Nat.le_of_eq g16.symm))
  have V31_2 := V29_2.other W31 (Ne.symm ne_b12_b16)
  have ne_b12_b22 : b12 ≠ b22 := Nat.ne_of_lt (Nat.lt_of_lt_of_le (V17_1).lt (Nat.le_of_eq g22.symm))
  have V31_3 := V29_3.other W31 (Ne.symm ne_b12_b22)
  have ne_b12_b29 : b12 ≠ b29 := Nat.ne_of_lt (Nat.lt_of_lt_of_le (V24_1).lt (Nat.le_of_eq g29.symm))
  have V31_4 := V_b29.other W31 (Ne.symm ne_b12_b29)
  have z31 : n0 ≤ h31.size := by rw [W31.size]; exact z29
  have K31 : Keep h0 h31 [a] := K29.wr W31 (Or.inr sz_b12)
  have N31 := Fr.snoc X31 N28 g_b12
  have pre32 : ∀ tt_, Steps p.tables e below (T31.setTop (mkF m 137 #[.val (.ref a), .val (.long q), .second, .val (.int (4 : Int32)), .val (.int lw), .val (.int (0 : Int32)), .val (.int (32768 : Int32))] [])) tt_ → Steps p.tables e below (s₁.setTop (entryFrame m #[(.ref a), (.long q)] 7)) tt_ := fun tt_ kk_ => pre25 tt_ (by
    show Steps p.tables e below (T24.setTop (mkF m 118 #[.val (.ref a), .val (.long q), .second, .val (.int (4 : Int32)), .val (.int lw), .val (.int (0 : Int32)), .val (.int (32768 : Int32))] [])) _
    refine XS.aloadN X24.here hx rfl (hb hby own_d_prog_35_method_1_code_118) rfl rfl ?_
    refine st26 _ ?_
    refine XS.iload X26.here hx rfl (hb hby own_d_prog_35_method_1_code_122) rfl ?_
    refine XS.iload X26.here hx rfl (hb hby own_d_prog_35_method_1_code_124) rfl ?_
    show Steps p.tables e below (T26.setTop (mkF m 126 #[.val (.ref a), .val (.long q), .second, .val (.int (4 : Int32)), .val (.int lw), .val (.int (0 : Int32)), .val (.int (32768 : Int32))] [(.int (32768 : Int32)), (.int (0 : Int32)), (.ref b12)])) _
    refine XS.sipush X26.here hx rfl (hb hby own_d_prog_35_method_1_code_126) ?_
    refine XS.isub X26.here hx rfl (hb hby own_d_prog_35_method_1_code_129) rfl ?_
    show Steps p.tables e below (T26.setTop (mkF m 130 #[.val (.ref a), .val (.long q), .second, .val (.int (4 : Int32)), .val (.int lw), .val (.int (0 : Int32)), .val (.int (32768 : Int32))] [(.int ((32768 : Int32) - (32764 : Int32))), (.int (0 : Int32)), (.ref b12)])) _
    rw [fold27]
    show Steps p.tables e below (T26.setTop (mkF m 130 #[.val (.ref a), .val (.long q), .second, .val (.int (4 : Int32)), .val (.int lw), .val (.int (0 : Int32)), .val (.int (32768 : Int32))] [(.int (4 : Int32)), (.int (0 : Int32)), (.ref b12)])) _
    refine XS.iconst X26.here hx rfl (hb hby own_d_prog_35_method_1_code_130) ?_
    show Steps p.tables e below (T26.setTop (mkF m 131 #[.val (.ref a), .val (.long q), .second, .val (.int (4 : Int32)), .val (.int lw), .val (.int (0 : Int32)), .val (.int (32768 : Int32))] [(.int (0 : Int32)), (.int (4 : Int32)), (.int (0 : Int32)), (.ref b12)])) _
    refine st28 _ ?_
    refine st29 _ ?_
    refine st31 _ ?_
    exact kk_)
  obtain ⟨T33, X33, e33, st33⟩ := getF X31 hx hZ hown (host := "") (Or.inl (hw _ (List.mem_of_getElem? (i := 22) rfl))) Via.refl e31 F31_3 (g := (mkF m 138 #[.val (.ref a), .val (.long q), .second, .val (.int (4 : Int32)), .val (.int lw), .val (.int (0 : Int32)), .val (.int (32768 : Int32))] [(.ref a)])) rfl rfl (hb hby own_d_prog_35_method_1_code_138)
  have fold34 : ((2 : Int32) * (0 : Int32)) = (0 : Int32) := by decide +kernel
  obtain ⟨T35, X35, e35, st35⟩ := getF X33 hx hZ hown (host := "") (Or.inl (hw _ (List.mem_of_getElem? (i := 18) rfl))) Via.refl e33 F31_1 (g := (mkF m 146 #[.val (.ref a), .val (.long q), .second, .val (.int (4 : Int32)), .val (.int lw), .val (.int (0 : Int32)), .val (.int (32768 : Int32))] [(.ref a), (.int (0 : Int32)), (.ref b16)])) rfl rfl (hb hby own_d_prog_35_method_1_code_146)
  obtain ⟨cl36, Ar36, q36, S36, M36, H36, G36⟩ := id V31_0
  have hin36 : ¬ ((0 : Int32) < 0 ∨ cl36.slots.size ≤ ((0 : Int32)).toNatClampNeg) := inb_of S36 ⟨by decide, by decide⟩
  have hat36 : cl36.slots[((0 : Int32)).toNatClampNeg]? = some (.ref b22) := Has.at H36 hin36 rfl
  obtain ⟨cl37, Ar37, q37, S37, M37, H37, G37⟩ := id V31_2
  have hin37 : ¬ ((0 : Int32) < 0 ∨ cl37.slots.size ≤ ((0 : Int32)).toNatClampNeg) := inb_of S37 ⟨by decide, by decide⟩
  obtain ⟨T38, h38, X38, e38, W38, st38⟩ := stR X35 hx hZ e35 Ar37 (j := (0 : Int32)) hin37 rfl (own_stoA Ar37 q37 O16 (Ins.self X31_1)) (g := (mkF m 152 #[.val (.ref a), .val (.long q), .second, .val (.int (4 : Int32)), .val (.int lw), .val (.int (0 : Int32)), .val (.int (32768 : Int32))] [(.ref b22), (.int (0 : Int32)), (.ref b16)])) rfl rfl (hb hby own_d_prog_35_method_1_code_152)
  have V_b16_38 : Arv Z h38 b16 k16 (.array .long) (7 : Int32) [(.ref b22), .null, .null, .null, .null, .null, .null] .null := Arv.set Ar37 q37 S37 M37 H37 G37 rfl W38 0 rfl (Nat.le_of_ble_eq_true rfl)
  have F38_0 := F31_0.other W38 (Or.inl ne_a_b16)
  have F38_1 := F31_1.other W38 (Or.inl ne_a_b16)
  have F38_2 := F31_2.other W38 (Or.inl ne_a_b16)
  have F38_3 := F31_3.other W38 (Or.inl ne_a_b16)
  have X38_0 := X31_0.wr W38
  have X38_1 := X31_1.wr W38
  have X38_2 := X31_2.wr W38
  have S38_0 := S31_0.wr W38
  have V38_0 := V31_0.other W38 ne_b10_b16
  have V38_1 := V_b12_31.other W38 ne_b12_b16
  have ne_b16_b22 : b16 ≠ b22 := Nat.ne_of_lt (Nat.lt_of_lt_of_le (V17_2).lt (Nat.le_of_eq g22.symm))
  have V38_3 := V31_3.other W38 (Ne.symm ne_b16_b22)
  have ne_b16_b29 : b16 ≠ b29 := Nat.ne_of_lt (Nat.lt_of_lt_of_le (V24_2).lt (Nat.le_of_eq g29.symm))
  have V38_4 := V31_4.other W38 (Ne.symm ne_b16_b29)
  have z38 : n0 ≤ h38.size := by rw [W38.size]; exact z31
  have K38 : Keep h0 h38 [a] := K31.wr W38 (Or.inr sz_b16)
  have N38 := Fr.snoc X38 N31 g_b16
  have pre39 : ∀ tt_, Steps p.tables e below (T38.setTop (mkF m 153 #[.val (.ref a), .val (.long q), .second, .val (.int (4 : Int32)), .val (.int lw), .val (.int (0 : Int32)), .val (.int (32768 : Int32))] [])) tt_ → Steps p.tables e below (s₁.setTop (entryFrame m #[(.ref a), (.long q)] 7)) tt_ := fun tt_ kk_ => pre32 tt_ (by
    show Steps p.tables e below (T31.setTop (mkF m 137 #[.val (.ref a), .val (.long q), .second, .val (.int (4 : Int32)), .val (.int lw), .val (.int (0 : Int32)), .val (.int (32768 : Int32))] [])) _
    refine XS.aloadN X31.here hx rfl (hb hby own_d_prog_35_method_1_code_137) rfl rfl ?_
    refine st33 _ ?_
    refine XS.iconst X33.here hx rfl (hb hby own_d_prog_35_method_1_code_141) ?_
    refine XS.iload X33.here hx rfl (hb hby own_d_prog_35_method_1_code_142) rfl ?_
    show Steps p.tables e below (T33.setTop (mkF m 144 #[.val (.ref a), .val (.long q), .second, .val (.int (4 : Int32)), .val (.int lw), .val (.int (0 : Int32)), .val (.int (32768 : Int32))] [(.int (0 : Int32)), (.int (2 : Int32)), (.ref b16)])) _
    refine XS.imul X33.here hx rfl (hb hby own_d_prog_35_method_1_code_144) rfl ?_
    show Steps p.tables e below (T33.setTop (mkF m 145 #[.val (.ref a), .val (.long q), .second, .val (.int (4 : Int32)), .val (.int lw), .val (.int (0 : Int32)), .val (.int (32768 : Int32))] [(.int ((2 : Int32) * (0 : Int32))), (.ref b16)])) _
    rw [fold34]
    show Steps p.tables e below (T33.setTop (mkF m 145 #[.val (.ref a), .val (.long q), .second, .val (.int (4 : Int32)), .val (.int lw), .val (.int (0 : Int32)), .val (.int (32768 : Int32))] [(.int (0 : Int32)), (.ref b16)])) _
    refine XS.aloadN X33.here hx rfl (hb hby own_d_prog_35_method_1_code_145) rfl rfl ?_
    refine st35 _ ?_
    refine XS.iload X35.here hx rfl (hb hby own_d_prog_35_method_1_code_149) rfl ?_
    refine X35.aaload hx (j := (0 : Int32)) (v := (.ref b22)) (by rw [e35]; exact Ar36.1) (State.isArrayOf_alike hZ.alike Ar36.2.1) rfl Ar36.2.2 hin36 hat36 (g := (mkF m 151 #[.val (.ref a), .val (.long q), .second, .val (.int (4 : Int32)), .val (.int lw), .val (.int (0 : Int32)), .val (.int (32768 : Int32))] [(.int (0 : Int32)), (.ref b10), (.int (0 : Int32)), (.ref b16)])) rfl rfl (hb hby own_d_prog_35_method_1_code_151) _ ?_
    refine st38 _ ?_
    exact kk_)
  obtain ⟨T40, X40, e40, st40⟩ := getF X38 hx hZ hown (host := "") (Or.inl (hw _ (List.mem_of_getElem? (i := 22) rfl))) Via.refl e38 F38_3 (g := (mkF m 162 #[.val (.ref a), .val (.long q), .second, .val (.int (4 : Int32)), .val (.int lw), .val (.int (0 : Int32)), .val (.int (32768 : Int32))] [(.ref a)])) rfl rfl (hb hby own_d_prog_35_method_1_code_162)
  have fold41 : ((2 : Int32) * (0 : Int32)) = (0 : Int32) := by decide +kernel
  have fold42 : ((0 : Int32) + (1 : Int32)) = (1 : Int32) := by decide +kernel
  obtain ⟨T43, X43, e43, st43⟩ := getF X40 hx hZ hown (host := "") (Or.inl (hw _ (List.mem_of_getElem? (i := 20) rfl))) Via.refl e40 F38_2 (g := (mkF m 172 #[.val (.ref a), .val (.long q), .second, .val (.int (4 : Int32)), .val (.int lw), .val (.int (0 : Int32)), .val (.int (32768 : Int32))] [(.ref a), (.int (1 : Int32)), (.ref b16)])) rfl rfl (hb hby own_d_prog_35_method_1_code_172)
  obtain ⟨cl44, Ar44, q44, S44, M44, H44, G44⟩ := id V38_1
  have hin44 : ¬ ((0 : Int32) < 0 ∨ cl44.slots.size ≤ ((0 : Int32)).toNatClampNeg) := inb_of S44 ⟨by decide, by decide⟩
  have hat44 : cl44.slots[((0 : Int32)).toNatClampNeg]? = some (.ref b29) := Has.at H44 hin44 rfl
  obtain ⟨cl45, Ar45, q45, S45, M45, H45, G45⟩ := id V_b16_38
  have hin45 : ¬ ((1 : Int32) < 0 ∨ cl45.slots.size ≤ ((1 : Int32)).toNatClampNeg) := inb_of S45 ⟨by decide, by decide⟩
  obtain ⟨T46, h46, X46, e46, W46, st46⟩ := stR X43 hx hZ e43 Ar45 (j := (1 : Int32)) hin45 rfl (own_stoA Ar45 q45 O16 (Ins.self X38_2)) (g := (mkF m 178 #[.val (.ref a), .val (.long q), .second, .val (.int (4 : Int32)), .val (.int lw), .val (.int (0 : Int32)), .val (.int (32768 : Int32))] [(.ref b29), (.int (1 : Int32)), (.ref b16)])) rfl rfl (hb hby own_d_prog_35_method_1_code_178)
  have V_b16_46 : Arv Z h46 b16 k16 (.array .long) (7 : Int32) [(.ref b22), (.ref b29), .null, .null, .null, .null, .null] .null := Arv.set Ar45 q45 S45 M45 H45 G45 rfl W46 1 rfl (Nat.le_of_ble_eq_true rfl)
  have F46_0 := F38_0.other W46 (Or.inl ne_a_b16)
  have F46_1 := F38_1.other W46 (Or.inl ne_a_b16)
  have F46_2 := F38_2.other W46 (Or.inl ne_a_b16)
  have F46_3 := F38_3.other W46 (Or.inl ne_a_b16)
  have X46_0 := X38_0.wr W46
  have X46_1 := X38_1.wr W46
  have X46_2 := X38_2.wr W46
  have S46_0 := S38_0.wr W46
  have V46_0 := V38_0.other W46 ne_b10_b16
  have V46_1 := V38_1.other W46 ne_b12_b16
  have V46_3 := V38_3.other W46 (Ne.symm ne_b16_b22)
  have V46_4 := V38_4.other W46 (Ne.symm ne_b16_b29)
  have z46 : n0 ≤ h46.size := by rw [W46.size]; exact z38
  have K46 : Keep h0 h46 [a] := K38.wr W46 (Or.inr sz_b16)
  have N46 := Fr.snoc X46 N38 g_b16
  have fold47 : ((0 : Int32) + (1 : Int32)) = (1 : Int32) := by decide +kernel
  have pre48 : ∀ tt_, Steps p.tables e below (T46.setTop (mkF m 78 #[.val (.ref a), .val (.long q), .second, .val (.int (4 : Int32)), .val (.int lw), .val (.int (1 : Int32)), .val (.int (32768 : Int32))] [])) tt_ → Steps p.tables e below (s₁.setTop (entryFrame m #[(.ref a), (.long q)] 7)) tt_ := fun tt_ kk_ => pre39 tt_ (by
    show Steps p.tables e below (T38.setTop (mkF m 153 #[.val (.ref a), .val (.long q), .second, .val (.int (4 : Int32)), .val (.int lw), .val (.int (0 : Int32)), .val (.int (32768 : Int32))] [])) _
    refine XS.iload X38.here hx rfl (hb hby own_d_prog_35_method_1_code_153) rfl ?_
    refine XS.sipush X38.here hx rfl (hb hby own_d_prog_35_method_1_code_155) ?_
    show Steps p.tables e below (T38.setTop (mkF m 158 #[.val (.ref a), .val (.long q), .second, .val (.int (4 : Int32)), .val (.int lw), .val (.int (0 : Int32)), .val (.int (32768 : Int32))] [(.int (32764 : Int32)), (.int (32768 : Int32))])) _
    refine XS.icmpNo X38.here hx rfl (hb hby own_d_prog_35_method_1_code_158) rfl (tlt ((by decide) : (32764 : Int32) < (32768 : Int32))).2.2.2 ?_
    refine XS.aloadN X38.here hx rfl (hb hby own_d_prog_35_method_1_code_161) rfl rfl ?_
    refine st40 _ ?_
    refine XS.iconst X40.here hx rfl (hb hby own_d_prog_35_method_1_code_165) ?_
    refine XS.iload X40.here hx rfl (hb hby own_d_prog_35_method_1_code_166) rfl ?_
    refine XS.imul X40.here hx rfl (hb hby own_d_prog_35_method_1_code_168) rfl ?_
    show Steps p.tables e below (T40.setTop (mkF m 169 #[.val (.ref a), .val (.long q), .second, .val (.int (4 : Int32)), .val (.int lw), .val (.int (0 : Int32)), .val (.int (32768 : Int32))] [(.int ((2 : Int32) * (0 : Int32))), (.ref b16)])) _
    rw [fold41]
    show Steps p.tables e below (T40.setTop (mkF m 169 #[.val (.ref a), .val (.long q), .second, .val (.int (4 : Int32)), .val (.int lw), .val (.int (0 : Int32)), .val (.int (32768 : Int32))] [(.int (0 : Int32)), (.ref b16)])) _
    refine XS.iconst X40.here hx rfl (hb hby own_d_prog_35_method_1_code_169) ?_
    show Steps p.tables e below (T40.setTop (mkF m 170 #[.val (.ref a), .val (.long q), .second, .val (.int (4 : Int32)), .val (.int lw), .val (.int (0 : Int32)), .val (.int (32768 : Int32))] [(.int (1 : Int32)), (.int (0 : Int32)), (.ref b16)])) _
    refine XS.iadd X40.here hx rfl (hb hby own_d_prog_35_method_1_code_170) rfl ?_
    show Steps p.tables e below (T40.setTop (mkF m 171 #[.val (.ref a), .val (.long q), .second, .val (.int (4 : Int32)), .val (.int lw), .val (.int (0 : Int32)), .val (.int (32768 : Int32))] [(.int ((0 : Int32) + (1 : Int32))), (.ref b16)])) _
    rw [fold42]
    show Steps p.tables e below (T40.setTop (mkF m 171 #[.val (.ref a), .val (.long q), .second, .val (.int (4 : Int32)), .val (.int lw), .val (.int (0 : Int32)), .val (.int (32768 : Int32))] [(.int (1 : Int32)), (.ref b16)])) _
    refine XS.aloadN X40.here hx rfl (hb hby own_d_prog_35_method_1_code_171) rfl rfl ?_
    refine st43 _ ?_
    refine XS.iload X43.here hx rfl (hb hby own_d_prog_35_method_1_code_175) rfl ?_
    refine X43.aaload hx (j := (0 : Int32)) (v := (.ref b29)) (by rw [e43]; exact Ar44.1) (State.isArrayOf_alike hZ.alike Ar44.2.1) rfl Ar44.2.2 hin44 hat44 (g := (mkF m 177 #[.val (.ref a), .val (.long q), .second, .val (.int (4 : Int32)), .val (.int lw), .val (.int (0 : Int32)), .val (.int (32768 : Int32))] [(.int (0 : Int32)), (.ref b12), (.int (1 : Int32)), (.ref b16)])) rfl rfl (hb hby own_d_prog_35_method_1_code_177) _ ?_
    refine st46 _ ?_
    refine XS.iinc X46.here hx rfl (hb hby own_d_prog_35_method_1_code_179) rfl (l' := #[.val (.ref a), .val (.long q), .second, .val (.int (4 : Int32)), .val (.int lw), .val (.int ((0 : Int32) + (1 : Int32))), .val (.int (32768 : Int32))]) rfl ?_
    show Steps p.tables e below (T46.setTop (mkF m 182 #[.val (.ref a), .val (.long q), .second, .val (.int (4 : Int32)), .val (.int lw), .val (.int ((0 : Int32) + (1 : Int32))), .val (.int (32768 : Int32))] [])) _
    rw [fold47]
    show Steps p.tables e below (T46.setTop (mkF m 182 #[.val (.ref a), .val (.long q), .second, .val (.int (4 : Int32)), .val (.int lw), .val (.int (1 : Int32)), .val (.int (32768 : Int32))] [])) _
    refine XS.goto X46.here hx rfl (pc0 := 182) (pc' := 78) rfl (hb hby own_d_prog_35_method_1_code_182) (by decide) (by decide) ?_
    exact kk_)
  have fold49 : ((4 : Int32) - (1 : Int32)) = (3 : Int32) := by decide +kernel
  obtain ⟨T50, X50, e50, st50⟩ := getF X46 hx hZ hown (host := "") (Or.inl (hw _ (List.mem_of_getElem? (i := 18) rfl))) Via.refl e46 F46_1 (g := (mkF m 102 #[.val (.ref a), .val (.long q), .second, .val (.int (4 : Int32)), .val (.int lw), .val (.int (1 : Int32)), .val (.int (32768 : Int32))] [(.ref a)])) rfl rfl (hb hby own_d_prog_35_method_1_code_102)
  obtain ⟨_, _, ⟨T51, L51, k51, n51⟩, -, X51, ⟨Lc51, hQ51, l51, y51, z51⟩, st51⟩ := Jvm.LawKit.callS X50 hx (y := (⟨"java/lang/Math", "min", "(II)I"⟩ : MethodName)) hown (mvT hZ (hw _ (List.mem_of_getElem? (i := 24) rfl))) (mvT hZ (hw _ (List.mem_of_getElem? (i := 25) rfl))) (mvT hZ (hw _ (List.mem_of_getElem? (i := 26) rfl))) (mvT hZ (hw _ (List.mem_of_getElem? (i := 27) rfl))) (by decide) (backOf (W := 2) (rmMin l Z a0 hw [] (32768 : Int32) (32764 : Int32) (32764 : Int32) h46 n0 z46 (by decide)) hZ (hw _ (List.mem_of_getElem? (i := 27) rfl)) (hw _ (List.mem_of_getElem? (i := 26) rfl)) (by decide) (by decide)) (g := (mkF m 112 #[.val (.ref a), .val (.long q), .second, .val (.int (4 : Int32)), .val (.int lw), .val (.int (1 : Int32)), .val (.int (32768 : Int32))] [(.int (32764 : Int32)), (.int (32768 : Int32)), (.int (1 : Int32)), (.ref b10)])) rfl (by rw [hml]; rfl) (argsL := [(.int (32768 : Int32)), (.int (32764 : Int32))]) (rest := [(.int (1 : Int32)), (.ref b10)]) (lenOf own_pd0 rfl) rfl (by show 2 * 0 + _ ≤ _; exact Nat.le_of_eq rfl) (hb hby own_d_prog_35_method_1_code_112) (fun _ _ => ⟨rfl, e50, (by decide : 5 + 0 ≤ _), (by decide : 32783 + 0 ≤ _)⟩)
  dsimp only [Pt.U, Pt.locs, Pt.cells, Pt.slots] at X51 l51 y51 z51 st51 hQ51
  replace l51 := l51.symm; subst l51 y51 z51
  obtain ⟨rfl, N51q, e51⟩ := hQ51
  have N51 := Fr.app N46 N51q
  obtain ⟨T52, h52, k52, X52, e52, E52, A52, Ea52, st52⟩ := newPE X51 hx hZ (hw _ (List.mem_of_getElem? (i := 28) rfl)) e51 (g := (mkF m 115 #[.val (.ref a), .val (.long q), .second, .val (.int (4 : Int32)), .val (.int lw), .val (.int (1 : Int32)), .val (.int (32768 : Int32))] [(.int (32764 : Int32)), (.int (1 : Int32)), (.ref b10)])) rfl (hb hby own_d_prog_35_method_1_code_115) rfl (by decide) (cap := 32764) (by decide) (by decide) (by decide) (by decide) (ad := "[J") (by decide +kernel)
  obtain ⟨b52, g52⟩ : ∃ z, z = h46.size := ⟨_, rfl⟩
  rw [← g52] at A52 st52 Ea52
  have g_b52 : n0 ≤ b52 := Nat.le_trans z46 (Nat.le_of_eq g52.symm)
  have sz_b52 : h0.size ≤ b52 := Nat.le_trans K46.1 (Nat.le_of_eq g52.symm)
  have F52_0 := F46_1.ext E52
  have F52_1 := F46_2.ext E52
  have F52_2 := F46_3.ext E52
  have X52_0 := X46_0.ext E52
  have S52_0 := S46_0.ext E52
  have V52_0 := V46_0.ext E52
  have V52_1 := V46_1.ext E52
  have V52_2 := V_b16_46.ext E52
  have V52_3 := V46_3.ext E52
  have V52_4 := V46_4.ext E52
  have z52 : n0 ≤ h52.size := Nat.le_trans z46 E52.1
  have K52 : Keep h0 h52 [a] := K46.ext E52
  have V_b52 : Arv Z h52 b52 k52 .long (32764 : Int32) [] (.long (0 : Int64)) := (Arv.new A52 (by decide)).pad (pad_rep [] (.long (0 : Int64)) 0)
  obtain ⟨cl53, Ar53, q53, S53, M53, H53, G53⟩ := id V52_0
  have hin53 : ¬ ((1 : Int32) < 0 ∨ cl53.slots.size ≤ ((1 : Int32)).toNatClampNeg) := inb_of S53 ⟨by decide, by decide⟩
  obtain ⟨T54, h54, X54, e54, W54, st54⟩ := stR X52 hx hZ e52 Ar53 (j := (1 : Int32)) hin53 rfl (own_stoA Ar53 q53 O10 (Ins.self Ea52)) (g := (mkF m 117 #[.val (.ref a), .val (.long q), .second, .val (.int (4 : Int32)), .val (.int lw), .val (.int (1 : Int32)), .val (.int (32768 : Int32))] [(.ref b52), (.int (1 : Int32)), (.ref b10)])) rfl rfl (hb hby own_d_prog_35_method_1_code_117)
  have V_b10_54 : Arv Z h54 b10 k10 (.array .long) (4 : Int32) [(.ref b22), (.ref b52), .null, .null] .null := Arv.set Ar53 q53 S53 M53 H53 G53 rfl W54 1 rfl (Nat.le_of_ble_eq_true rfl)
  have F54_0 := F52_0.other W54 (Or.inl ne_a_b10)
  have F54_1 := F52_1.other W54 (Or.inl ne_a_b10)
  have F54_2 := F52_2.other W54 (Or.inl ne_a_b10)
  have X54_0 := X52_0.wr W54
  have X54_1 := Ea52.wr W54
  have S54_0 := S52_0.wr W54
  have V54_1 := V52_1.other W54 (Ne.symm ne_b10_b12)
  have V54_2 := V52_2.other W54 (Ne.symm ne_b10_b16)
  have V54_3 := V52_3.other W54 (Ne.symm ne_b10_b22)
  have ne_b10_b29 : b10 ≠ b29 := Nat.ne_of_lt (Nat.lt_of_lt_of_le (V_b10_24).lt (Nat.le_of_eq g29.symm))
  have V54_4 := V52_4.other W54 (Ne.symm ne_b10_b29)
  have ne_b10_b52 : b10 ≠ b52 := Nat.ne_of_lt (Nat.lt_of_lt_of_le (V46_0).lt (Nat.le_of_eq g52.symm))
  have V54_5 := V_b52.other W54 (Ne.symm ne_b10_b52)
  have z54 : n0 ≤ h54.size := by rw [W54.size]; exact z52
  have K54 : Keep h0 h54 [a] := K52.wr W54 (Or.inr sz_b10)
  have N54 := Fr.snoc X54 N51 g_b10
  have pre55 : ∀ tt_, Steps p.tables e below (T54.setTop (mkF m 118 #[.val (.ref a), .val (.long q), .second, .val (.int (4 : Int32)), .val (.int lw), .val (.int (1 : Int32)), .val (.int (32768 : Int32))] [])) tt_ → Steps p.tables e below (s₁.setTop (entryFrame m #[(.ref a), (.long q)] 7)) tt_ := fun tt_ kk_ => pre48 tt_ (by
    show Steps p.tables e below (T46.setTop (mkF m 78 #[.val (.ref a), .val (.long q), .second, .val (.int (4 : Int32)), .val (.int lw), .val (.int (1 : Int32)), .val (.int (32768 : Int32))] [])) _
    refine XS.iload X46.here hx rfl (hb hby own_d_prog_35_method_1_code_78) rfl ?_
    refine XS.iloadN X46.here hx rfl (hb hby own_d_prog_35_method_1_code_80) rfl ?_
    refine XS.icmpNo X46.here hx rfl (hb hby own_d_prog_35_method_1_code_81) rfl (tlt ((by decide) : (1 : Int32) < (4 : Int32))).2.1 ?_
    refine XS.iload X46.here hx rfl (hb hby own_d_prog_35_method_1_code_84) rfl ?_
    refine XS.iloadN X46.here hx rfl (hb hby own_d_prog_35_method_1_code_86) rfl ?_
    refine XS.iconst X46.here hx rfl (hb hby own_d_prog_35_method_1_code_87) ?_
    show Steps p.tables e below (T46.setTop (mkF m 88 #[.val (.ref a), .val (.long q), .second, .val (.int (4 : Int32)), .val (.int lw), .val (.int (1 : Int32)), .val (.int (32768 : Int32))] [(.int (1 : Int32)), (.int (4 : Int32)), (.int (1 : Int32))])) _
    refine XS.isub X46.here hx rfl (hb hby own_d_prog_35_method_1_code_88) rfl ?_
    show Steps p.tables e below (T46.setTop (mkF m 89 #[.val (.ref a), .val (.long q), .second, .val (.int (4 : Int32)), .val (.int lw), .val (.int (1 : Int32)), .val (.int (32768 : Int32))] [(.int ((4 : Int32) - (1 : Int32))), (.int (1 : Int32))])) _
    rw [fold49]
    show Steps p.tables e below (T46.setTop (mkF m 89 #[.val (.ref a), .val (.long q), .second, .val (.int (4 : Int32)), .val (.int lw), .val (.int (1 : Int32)), .val (.int (32768 : Int32))] [(.int (3 : Int32)), (.int (1 : Int32))])) _
    refine XS.icmpNo X46.here hx rfl (hb hby own_d_prog_35_method_1_code_89) rfl (tlt ((by decide) : (1 : Int32) < (3 : Int32))).2.1 ?_
    refine X46.ldcInt hx hown (mvT hZ (hw _ (List.mem_of_getElem? (i := 52) rfl))) (g := (mkF m 92 #[.val (.ref a), .val (.long q), .second, .val (.int (4 : Int32)), .val (.int lw), .val (.int (1 : Int32)), .val (.int (32768 : Int32))] [])) rfl (hb hby own_d_prog_35_method_1_code_92) _ ?_
    refine XS.goto X46.here hx rfl (pc0 := 94) (pc' := 99) rfl (hb hby own_d_prog_35_method_1_code_94) (by decide) (by decide) ?_
    refine XS.istore X46.here hx rfl (hb hby own_d_prog_35_method_1_code_99) rfl (l' := #[.val (.ref a), .val (.long q), .second, .val (.int (4 : Int32)), .val (.int lw), .val (.int (1 : Int32)), .val (.int (32768 : Int32))]) rfl ?_
    refine XS.aloadN X46.here hx rfl (hb hby own_d_prog_35_method_1_code_101) rfl rfl ?_
    refine st50 _ ?_
    show Steps p.tables e below (T50.setTop (mkF m 105 #[.val (.ref a), .val (.long q), .second, .val (.int (4 : Int32)), .val (.int lw), .val (.int (1 : Int32)), .val (.int (32768 : Int32))] [(.ref b10)])) _
    refine XS.iload X50.here hx rfl (hb hby own_d_prog_35_method_1_code_105) rfl ?_
    refine XS.iload X50.here hx rfl (hb hby own_d_prog_35_method_1_code_107) rfl ?_
    refine XS.sipush X50.here hx rfl (hb hby own_d_prog_35_method_1_code_109) ?_
    show Steps p.tables e below (T50.setTop (mkF m 112 #[.val (.ref a), .val (.long q), .second, .val (.int (4 : Int32)), .val (.int lw), .val (.int (1 : Int32)), .val (.int (32768 : Int32))] [(.int (32764 : Int32)), (.int (32768 : Int32)), (.int (1 : Int32)), (.ref b10)])) _
    refine st51 _ ?_
    refine st52 _ ?_
    refine st54 _ ?_
    exact kk_)
  obtain ⟨T56, X56, e56, st56⟩ := getF X54 hx hZ hown (host := "") (Or.inl (hw _ (List.mem_of_getElem? (i := 20) rfl))) Via.refl e54 F54_1 (g := (mkF m 119 #[.val (.ref a), .val (.long q), .second, .val (.int (4 : Int32)), .val (.int lw), .val (.int (1 : Int32)), .val (.int (32768 : Int32))] [(.ref a)])) rfl rfl (hb hby own_d_prog_35_method_1_code_119)
  have fold57 : ((32768 : Int32) - (32764 : Int32)) = (4 : Int32) := by decide +kernel
  obtain ⟨_, _, ⟨T58, L58, k58, n58⟩, -, X58, ⟨Lc58, hQ58, l58, y58, z58⟩, st58⟩ := Jvm.LawKit.callS X56 hx (y := (⟨"java/lang/Math", "max", "(II)I"⟩ : MethodName)) hown (mvT hZ (hw _ (List.mem_of_getElem? (i := 30) rfl))) (mvT hZ (hw _ (List.mem_of_getElem? (i := 31) rfl))) (mvT hZ (hw _ (List.mem_of_getElem? (i := 26) rfl))) (mvT hZ (hw _ (List.mem_of_getElem? (i := 32) rfl))) (by decide) (backOf (W := 2) (rmMax l Z a0 hw [] (4 : Int32) (0 : Int32) (4 : Int32) h54 n0 z54 (by decide)) hZ (hw _ (List.mem_of_getElem? (i := 32) rfl)) (hw _ (List.mem_of_getElem? (i := 26) rfl)) (by decide) (by decide)) (g := (mkF m 131 #[.val (.ref a), .val (.long q), .second, .val (.int (4 : Int32)), .val (.int lw), .val (.int (1 : Int32)), .val (.int (32768 : Int32))] [(.int (0 : Int32)), (.int (4 : Int32)), (.int (1 : Int32)), (.ref b12)])) rfl (by rw [hml]; rfl) (argsL := [(.int (4 : Int32)), (.int (0 : Int32))]) (rest := [(.int (1 : Int32)), (.ref b12)]) (lenOf own_pd0 rfl) rfl (by show 2 * 0 + _ ≤ _; exact Nat.le_of_eq rfl) (hb hby own_d_prog_35_method_1_code_131) (fun _ _ => ⟨rfl, e56, (by decide : 6 + 0 ≤ _), (by decide : 65547 + 0 ≤ _)⟩)
  dsimp only [Pt.U, Pt.locs, Pt.cells, Pt.slots] at X58 l58 y58 z58 st58 hQ58
  replace l58 := l58.symm; subst l58 y58 z58
  obtain ⟨rfl, N58q, e58⟩ := hQ58
  have N58 := Fr.app N54 N58q
  obtain ⟨T59, h59, k59, X59, e59, E59, A59, Ea59, st59⟩ := newPE X58 hx hZ (hw _ (List.mem_of_getElem? (i := 28) rfl)) e58 (g := (mkF m 134 #[.val (.ref a), .val (.long q), .second, .val (.int (4 : Int32)), .val (.int lw), .val (.int (1 : Int32)), .val (.int (32768 : Int32))] [(.int (4 : Int32)), (.int (1 : Int32)), (.ref b12)])) rfl (hb hby own_d_prog_35_method_1_code_134) rfl (by decide) (cap := 4) (by decide) (by decide) (by decide) (by decide) (ad := "[J") (by decide +kernel)
  obtain ⟨b59, g59⟩ : ∃ z, z = h54.size := ⟨_, rfl⟩
  rw [← g59] at A59 st59 Ea59
  have g_b59 : n0 ≤ b59 := Nat.le_trans z54 (Nat.le_of_eq g59.symm)
  have sz_b59 : h0.size ≤ b59 := Nat.le_trans K54.1 (Nat.le_of_eq g59.symm)
  have F59_0 := F54_0.ext E59
  have F59_1 := F54_1.ext E59
  have F59_2 := F54_2.ext E59
  have X59_0 := X54_0.ext E59
  have X59_1 := X54_1.ext E59
  have S59_0 := S54_0.ext E59
  have V59_0 := V_b10_54.ext E59
  have V59_1 := V54_1.ext E59
  have V59_2 := V54_2.ext E59
  have V59_3 := V54_3.ext E59
  have V59_4 := V54_4.ext E59
  have V59_5 := V54_5.ext E59
  have z59 : n0 ≤ h59.size := Nat.le_trans z54 E59.1
  have K59 : Keep h0 h59 [a] := K54.ext E59
  have V_b59 : Arv Z h59 b59 k59 .long (4 : Int32) [] (.long (0 : Int64)) := (Arv.new A59 (by decide)).pad (pad_rep [] (.long (0 : Int64)) 0)
  obtain ⟨cl60, Ar60, q60, S60, M60, H60, G60⟩ := id V59_1
  have hin60 : ¬ ((1 : Int32) < 0 ∨ cl60.slots.size ≤ ((1 : Int32)).toNatClampNeg) := inb_of S60 ⟨by decide, by decide⟩
  obtain ⟨T61, h61, X61, e61, W61, st61⟩ := stR X59 hx hZ e59 Ar60 (j := (1 : Int32)) hin60 rfl (own_stoA Ar60 q60 O12 (Ins.self Ea59)) (g := (mkF m 136 #[.val (.ref a), .val (.long q), .second, .val (.int (4 : Int32)), .val (.int lw), .val (.int (1 : Int32)), .val (.int (32768 : Int32))] [(.ref b59), (.int (1 : Int32)), (.ref b12)])) rfl rfl (hb hby own_d_prog_35_method_1_code_136)
  have V_b12_61 : Arv Z h61 b12 k12 (.array .long) (4 : Int32) [(.ref b29), (.ref b59), .null, .null] .null := Arv.set Ar60 q60 S60 M60 H60 G60 rfl W61 1 rfl (Nat.le_of_ble_eq_true rfl)
  have F61_0 := F59_0.other W61 (Or.inl ne_a_b12)
  have F61_1 := F59_1.other W61 (Or.inl ne_a_b12)
  have F61_2 := F59_2.other W61 (Or.inl ne_a_b12)
  have X61_0 := X59_0.wr W61
  have X61_1 := X59_1.wr W61
  have X61_2 := Ea59.wr W61
  have S61_0 := S59_0.wr W61
  have V61_0 := V59_0.other W61 ne_b10_b12
  have V61_2 := V59_2.other W61 (Ne.symm ne_b12_b16)
  have V61_3 := V59_3.other W61 (Ne.symm ne_b12_b22)
  have V61_4 := V59_4.other W61 (Ne.symm ne_b12_b29)
  have ne_b12_b52 : b12 ≠ b52 := Nat.ne_of_lt (Nat.lt_of_lt_of_le (V46_1).lt (Nat.le_of_eq g52.symm))
  have V61_5 := V59_5.other W61 (Ne.symm ne_b12_b52)
  have ne_b12_b59 : b12 ≠ b59 := Nat.ne_of_lt (Nat.lt_of_lt_of_le (V54_1).lt (Nat.le_of_eq g59.symm))
  have V61_6 := V_b59.other W61 (Ne.symm ne_b12_b59)
  have z61 : n0 ≤ h61.size := by rw [W61.size]; exact z59
  have K61 : Keep h0 h61 [a] := K59.wr W61 (Or.inr sz_b12)
  have N61 := Fr.snoc X61 N58 g_b12
  have pre62 : ∀ tt_, Steps p.tables e below (T61.setTop (mkF m 137 #[.val (.ref a), .val (.long q), .second, .val (.int (4 : Int32)), .val (.int lw), .val (.int (1 : Int32)), .val (.int (32768 : Int32))] [])) tt_ → Steps p.tables e below (s₁.setTop (entryFrame m #[(.ref a), (.long q)] 7)) tt_ := fun tt_ kk_ => pre55 tt_ (by
    show Steps p.tables e below (T54.setTop (mkF m 118 #[.val (.ref a), .val (.long q), .second, .val (.int (4 : Int32)), .val (.int lw), .val (.int (1 : Int32)), .val (.int (32768 : Int32))] [])) _
    refine XS.aloadN X54.here hx rfl (hb hby own_d_prog_35_method_1_code_118) rfl rfl ?_
    refine st56 _ ?_
    refine XS.iload X56.here hx rfl (hb hby own_d_prog_35_method_1_code_122) rfl ?_
    refine XS.iload X56.here hx rfl (hb hby own_d_prog_35_method_1_code_124) rfl ?_
    show Steps p.tables e below (T56.setTop (mkF m 126 #[.val (.ref a), .val (.long q), .second, .val (.int (4 : Int32)), .val (.int lw), .val (.int (1 : Int32)), .val (.int (32768 : Int32))] [(.int (32768 : Int32)), (.int (1 : Int32)), (.ref b12)])) _
    refine XS.sipush X56.here hx rfl (hb hby own_d_prog_35_method_1_code_126) ?_
    refine XS.isub X56.here hx rfl (hb hby own_d_prog_35_method_1_code_129) rfl ?_
    show Steps p.tables e below (T56.setTop (mkF m 130 #[.val (.ref a), .val (.long q), .second, .val (.int (4 : Int32)), .val (.int lw), .val (.int (1 : Int32)), .val (.int (32768 : Int32))] [(.int ((32768 : Int32) - (32764 : Int32))), (.int (1 : Int32)), (.ref b12)])) _
    rw [fold57]
    show Steps p.tables e below (T56.setTop (mkF m 130 #[.val (.ref a), .val (.long q), .second, .val (.int (4 : Int32)), .val (.int lw), .val (.int (1 : Int32)), .val (.int (32768 : Int32))] [(.int (4 : Int32)), (.int (1 : Int32)), (.ref b12)])) _
    refine XS.iconst X56.here hx rfl (hb hby own_d_prog_35_method_1_code_130) ?_
    show Steps p.tables e below (T56.setTop (mkF m 131 #[.val (.ref a), .val (.long q), .second, .val (.int (4 : Int32)), .val (.int lw), .val (.int (1 : Int32)), .val (.int (32768 : Int32))] [(.int (0 : Int32)), (.int (4 : Int32)), (.int (1 : Int32)), (.ref b12)])) _
    refine st58 _ ?_
    refine st59 _ ?_
    refine st61 _ ?_
    exact kk_)
  obtain ⟨T63, X63, e63, st63⟩ := getF X61 hx hZ hown (host := "") (Or.inl (hw _ (List.mem_of_getElem? (i := 22) rfl))) Via.refl e61 F61_2 (g := (mkF m 138 #[.val (.ref a), .val (.long q), .second, .val (.int (4 : Int32)), .val (.int lw), .val (.int (1 : Int32)), .val (.int (32768 : Int32))] [(.ref a)])) rfl rfl (hb hby own_d_prog_35_method_1_code_138)
  have fold64 : ((2 : Int32) * (1 : Int32)) = (2 : Int32) := by decide +kernel
  obtain ⟨T65, X65, e65, st65⟩ := getF X63 hx hZ hown (host := "") (Or.inl (hw _ (List.mem_of_getElem? (i := 18) rfl))) Via.refl e63 F61_0 (g := (mkF m 146 #[.val (.ref a), .val (.long q), .second, .val (.int (4 : Int32)), .val (.int lw), .val (.int (1 : Int32)), .val (.int (32768 : Int32))] [(.ref a), (.int (2 : Int32)), (.ref b16)])) rfl rfl (hb hby own_d_prog_35_method_1_code_146)
  obtain ⟨cl66, Ar66, q66, S66, M66, H66, G66⟩ := id V61_0
  have hin66 : ¬ ((1 : Int32) < 0 ∨ cl66.slots.size ≤ ((1 : Int32)).toNatClampNeg) := inb_of S66 ⟨by decide, by decide⟩
  have hat66 : cl66.slots[((1 : Int32)).toNatClampNeg]? = some (.ref b52) := Has.at H66 hin66 rfl
  obtain ⟨cl67, Ar67, q67, S67, M67, H67, G67⟩ := id V61_2
  have hin67 : ¬ ((2 : Int32) < 0 ∨ cl67.slots.size ≤ ((2 : Int32)).toNatClampNeg) := inb_of S67 ⟨by decide, by decide⟩
  obtain ⟨T68, h68, X68, e68, W68, st68⟩ := stR X65 hx hZ e65 Ar67 (j := (2 : Int32)) hin67 rfl (own_stoA Ar67 q67 O16 (Ins.self X61_1)) (g := (mkF m 152 #[.val (.ref a), .val (.long q), .second, .val (.int (4 : Int32)), .val (.int lw), .val (.int (1 : Int32)), .val (.int (32768 : Int32))] [(.ref b52), (.int (2 : Int32)), (.ref b16)])) rfl rfl (hb hby own_d_prog_35_method_1_code_152)
  have V_b16_68 : Arv Z h68 b16 k16 (.array .long) (7 : Int32) [(.ref b22), (.ref b29), (.ref b52), .null, .null, .null, .null] .null := Arv.set Ar67 q67 S67 M67 H67 G67 rfl W68 2 rfl (Nat.le_of_ble_eq_true rfl)
  have F68_0 := F61_0.other W68 (Or.inl ne_a_b16)
  have F68_1 := F61_1.other W68 (Or.inl ne_a_b16)
  have F68_2 := F61_2.other W68 (Or.inl ne_a_b16)
  have X68_0 := X61_0.wr W68
  have X68_1 := X61_1.wr W68
  have X68_2 := X61_2.wr W68
  have S68_0 := S61_0.wr W68
  have V68_0 := V61_0.other W68 ne_b10_b16
  have V68_1 := V_b12_61.other W68 ne_b12_b16
  have V68_3 := V61_3.other W68 (Ne.symm ne_b16_b22)
  have V68_4 := V61_4.other W68 (Ne.symm ne_b16_b29)
  have ne_b16_b52 : b16 ≠ b52 := Nat.ne_of_lt (Nat.lt_of_lt_of_le (V_b16_46).lt (Nat.le_of_eq g52.symm))
  have V68_5 := V61_5.other W68 (Ne.symm ne_b16_b52)
  have ne_b16_b59 : b16 ≠ b59 := Nat.ne_of_lt (Nat.lt_of_lt_of_le (V54_2).lt (Nat.le_of_eq g59.symm))
  have V68_6 := V61_6.other W68 (Ne.symm ne_b16_b59)
  have z68 : n0 ≤ h68.size := by rw [W68.size]; exact z61
  have K68 : Keep h0 h68 [a] := K61.wr W68 (Or.inr sz_b16)
  have N68 := Fr.snoc X68 N61 g_b16
  have pre69 : ∀ tt_, Steps p.tables e below (T68.setTop (mkF m 153 #[.val (.ref a), .val (.long q), .second, .val (.int (4 : Int32)), .val (.int lw), .val (.int (1 : Int32)), .val (.int (32768 : Int32))] [])) tt_ → Steps p.tables e below (s₁.setTop (entryFrame m #[(.ref a), (.long q)] 7)) tt_ := fun tt_ kk_ => pre62 tt_ (by
    show Steps p.tables e below (T61.setTop (mkF m 137 #[.val (.ref a), .val (.long q), .second, .val (.int (4 : Int32)), .val (.int lw), .val (.int (1 : Int32)), .val (.int (32768 : Int32))] [])) _
    refine XS.aloadN X61.here hx rfl (hb hby own_d_prog_35_method_1_code_137) rfl rfl ?_
    refine st63 _ ?_
    refine XS.iconst X63.here hx rfl (hb hby own_d_prog_35_method_1_code_141) ?_
    refine XS.iload X63.here hx rfl (hb hby own_d_prog_35_method_1_code_142) rfl ?_
    show Steps p.tables e below (T63.setTop (mkF m 144 #[.val (.ref a), .val (.long q), .second, .val (.int (4 : Int32)), .val (.int lw), .val (.int (1 : Int32)), .val (.int (32768 : Int32))] [(.int (1 : Int32)), (.int (2 : Int32)), (.ref b16)])) _
    refine XS.imul X63.here hx rfl (hb hby own_d_prog_35_method_1_code_144) rfl ?_
    show Steps p.tables e below (T63.setTop (mkF m 145 #[.val (.ref a), .val (.long q), .second, .val (.int (4 : Int32)), .val (.int lw), .val (.int (1 : Int32)), .val (.int (32768 : Int32))] [(.int ((2 : Int32) * (1 : Int32))), (.ref b16)])) _
    rw [fold64]
    show Steps p.tables e below (T63.setTop (mkF m 145 #[.val (.ref a), .val (.long q), .second, .val (.int (4 : Int32)), .val (.int lw), .val (.int (1 : Int32)), .val (.int (32768 : Int32))] [(.int (2 : Int32)), (.ref b16)])) _
    refine XS.aloadN X63.here hx rfl (hb hby own_d_prog_35_method_1_code_145) rfl rfl ?_
    refine st65 _ ?_
    refine XS.iload X65.here hx rfl (hb hby own_d_prog_35_method_1_code_149) rfl ?_
    refine X65.aaload hx (j := (1 : Int32)) (v := (.ref b52)) (by rw [e65]; exact Ar66.1) (State.isArrayOf_alike hZ.alike Ar66.2.1) rfl Ar66.2.2 hin66 hat66 (g := (mkF m 151 #[.val (.ref a), .val (.long q), .second, .val (.int (4 : Int32)), .val (.int lw), .val (.int (1 : Int32)), .val (.int (32768 : Int32))] [(.int (1 : Int32)), (.ref b10), (.int (2 : Int32)), (.ref b16)])) rfl rfl (hb hby own_d_prog_35_method_1_code_151) _ ?_
    refine st68 _ ?_
    exact kk_)
  obtain ⟨T70, X70, e70, st70⟩ := getF X68 hx hZ hown (host := "") (Or.inl (hw _ (List.mem_of_getElem? (i := 22) rfl))) Via.refl e68 F68_2 (g := (mkF m 162 #[.val (.ref a), .val (.long q), .second, .val (.int (4 : Int32)), .val (.int lw), .val (.int (1 : Int32)), .val (.int (32768 : Int32))] [(.ref a)])) rfl rfl (hb hby own_d_prog_35_method_1_code_162)
  have fold71 : ((2 : Int32) * (1 : Int32)) = (2 : Int32) := by decide +kernel
  have fold72 : ((2 : Int32) + (1 : Int32)) = (3 : Int32) := by decide +kernel
  obtain ⟨T73, X73, e73, st73⟩ := getF X70 hx hZ hown (host := "") (Or.inl (hw _ (List.mem_of_getElem? (i := 20) rfl))) Via.refl e70 F68_1 (g := (mkF m 172 #[.val (.ref a), .val (.long q), .second, .val (.int (4 : Int32)), .val (.int lw), .val (.int (1 : Int32)), .val (.int (32768 : Int32))] [(.ref a), (.int (3 : Int32)), (.ref b16)])) rfl rfl (hb hby own_d_prog_35_method_1_code_172)
  obtain ⟨cl74, Ar74, q74, S74, M74, H74, G74⟩ := id V68_1
  have hin74 : ¬ ((1 : Int32) < 0 ∨ cl74.slots.size ≤ ((1 : Int32)).toNatClampNeg) := inb_of S74 ⟨by decide, by decide⟩
  have hat74 : cl74.slots[((1 : Int32)).toNatClampNeg]? = some (.ref b59) := Has.at H74 hin74 rfl
  obtain ⟨cl75, Ar75, q75, S75, M75, H75, G75⟩ := id V_b16_68
  have hin75 : ¬ ((3 : Int32) < 0 ∨ cl75.slots.size ≤ ((3 : Int32)).toNatClampNeg) := inb_of S75 ⟨by decide, by decide⟩
  obtain ⟨T76, h76, X76, e76, W76, st76⟩ := stR X73 hx hZ e73 Ar75 (j := (3 : Int32)) hin75 rfl (own_stoA Ar75 q75 O16 (Ins.self X68_2)) (g := (mkF m 178 #[.val (.ref a), .val (.long q), .second, .val (.int (4 : Int32)), .val (.int lw), .val (.int (1 : Int32)), .val (.int (32768 : Int32))] [(.ref b59), (.int (3 : Int32)), (.ref b16)])) rfl rfl (hb hby own_d_prog_35_method_1_code_178)
  have V_b16_76 : Arv Z h76 b16 k16 (.array .long) (7 : Int32) [(.ref b22), (.ref b29), (.ref b52), (.ref b59), .null, .null, .null] .null := Arv.set Ar75 q75 S75 M75 H75 G75 rfl W76 3 rfl (Nat.le_of_ble_eq_true rfl)
  have F76_0 := F68_0.other W76 (Or.inl ne_a_b16)
  have F76_1 := F68_1.other W76 (Or.inl ne_a_b16)
  have F76_2 := F68_2.other W76 (Or.inl ne_a_b16)
  have X76_0 := X68_0.wr W76
  have X76_1 := X68_1.wr W76
  have X76_2 := X68_2.wr W76
  have S76_0 := S68_0.wr W76
  have V76_0 := V68_0.other W76 ne_b10_b16
  have V76_1 := V68_1.other W76 ne_b12_b16
  have V76_3 := V68_3.other W76 (Ne.symm ne_b16_b22)
  have V76_4 := V68_4.other W76 (Ne.symm ne_b16_b29)
  have V76_5 := V68_5.other W76 (Ne.symm ne_b16_b52)
  have V76_6 := V68_6.other W76 (Ne.symm ne_b16_b59)
  have z76 : n0 ≤ h76.size := by rw [W76.size]; exact z68
  have K76 : Keep h0 h76 [a] := K68.wr W76 (Or.inr sz_b16)
  have N76 := Fr.snoc X76 N68 g_b16
  have fold77 : ((1 : Int32) + (1 : Int32)) = (2 : Int32) := by decide +kernel
  have pre78 : ∀ tt_, Steps p.tables e below (T76.setTop (mkF m 78 #[.val (.ref a), .val (.long q), .second, .val (.int (4 : Int32)), .val (.int lw), .val (.int (2 : Int32)), .val (.int (32768 : Int32))] [])) tt_ → Steps p.tables e below (s₁.setTop (entryFrame m #[(.ref a), (.long q)] 7)) tt_ := fun tt_ kk_ => pre69 tt_ (by
    show Steps p.tables e below (T68.setTop (mkF m 153 #[.val (.ref a), .val (.long q), .second, .val (.int (4 : Int32)), .val (.int lw), .val (.int (1 : Int32)), .val (.int (32768 : Int32))] [])) _
    refine XS.iload X68.here hx rfl (hb hby own_d_prog_35_method_1_code_153) rfl ?_
    refine XS.sipush X68.here hx rfl (hb hby own_d_prog_35_method_1_code_155) ?_
    show Steps p.tables e below (T68.setTop (mkF m 158 #[.val (.ref a), .val (.long q), .second, .val (.int (4 : Int32)), .val (.int lw), .val (.int (1 : Int32)), .val (.int (32768 : Int32))] [(.int (32764 : Int32)), (.int (32768 : Int32))])) _
    refine XS.icmpNo X68.here hx rfl (hb hby own_d_prog_35_method_1_code_158) rfl (tlt ((by decide) : (32764 : Int32) < (32768 : Int32))).2.2.2 ?_
    refine XS.aloadN X68.here hx rfl (hb hby own_d_prog_35_method_1_code_161) rfl rfl ?_
    refine st70 _ ?_
    refine XS.iconst X70.here hx rfl (hb hby own_d_prog_35_method_1_code_165) ?_
    refine XS.iload X70.here hx rfl (hb hby own_d_prog_35_method_1_code_166) rfl ?_
    refine XS.imul X70.here hx rfl (hb hby own_d_prog_35_method_1_code_168) rfl ?_
    show Steps p.tables e below (T70.setTop (mkF m 169 #[.val (.ref a), .val (.long q), .second, .val (.int (4 : Int32)), .val (.int lw), .val (.int (1 : Int32)), .val (.int (32768 : Int32))] [(.int ((2 : Int32) * (1 : Int32))), (.ref b16)])) _
    rw [fold71]
    show Steps p.tables e below (T70.setTop (mkF m 169 #[.val (.ref a), .val (.long q), .second, .val (.int (4 : Int32)), .val (.int lw), .val (.int (1 : Int32)), .val (.int (32768 : Int32))] [(.int (2 : Int32)), (.ref b16)])) _
    refine XS.iconst X70.here hx rfl (hb hby own_d_prog_35_method_1_code_169) ?_
    show Steps p.tables e below (T70.setTop (mkF m 170 #[.val (.ref a), .val (.long q), .second, .val (.int (4 : Int32)), .val (.int lw), .val (.int (1 : Int32)), .val (.int (32768 : Int32))] [(.int (1 : Int32)), (.int (2 : Int32)), (.ref b16)])) _
    refine XS.iadd X70.here hx rfl (hb hby own_d_prog_35_method_1_code_170) rfl ?_
    show Steps p.tables e below (T70.setTop (mkF m 171 #[.val (.ref a), .val (.long q), .second, .val (.int (4 : Int32)), .val (.int lw), .val (.int (1 : Int32)), .val (.int (32768 : Int32))] [(.int ((2 : Int32) + (1 : Int32))), (.ref b16)])) _
    rw [fold72]
    show Steps p.tables e below (T70.setTop (mkF m 171 #[.val (.ref a), .val (.long q), .second, .val (.int (4 : Int32)), .val (.int lw), .val (.int (1 : Int32)), .val (.int (32768 : Int32))] [(.int (3 : Int32)), (.ref b16)])) _
    refine XS.aloadN X70.here hx rfl (hb hby own_d_prog_35_method_1_code_171) rfl rfl ?_
    refine st73 _ ?_
    refine XS.iload X73.here hx rfl (hb hby own_d_prog_35_method_1_code_175) rfl ?_
    refine X73.aaload hx (j := (1 : Int32)) (v := (.ref b59)) (by rw [e73]; exact Ar74.1) (State.isArrayOf_alike hZ.alike Ar74.2.1) rfl Ar74.2.2 hin74 hat74 (g := (mkF m 177 #[.val (.ref a), .val (.long q), .second, .val (.int (4 : Int32)), .val (.int lw), .val (.int (1 : Int32)), .val (.int (32768 : Int32))] [(.int (1 : Int32)), (.ref b12), (.int (3 : Int32)), (.ref b16)])) rfl rfl (hb hby own_d_prog_35_method_1_code_177) _ ?_
    refine st76 _ ?_
    refine XS.iinc X76.here hx rfl (hb hby own_d_prog_35_method_1_code_179) rfl (l' := #[.val (.ref a), .val (.long q), .second, .val (.int (4 : Int32)), .val (.int lw), .val (.int ((1 : Int32) + (1 : Int32))), .val (.int (32768 : Int32))]) rfl ?_
    show Steps p.tables e below (T76.setTop (mkF m 182 #[.val (.ref a), .val (.long q), .second, .val (.int (4 : Int32)), .val (.int lw), .val (.int ((1 : Int32) + (1 : Int32))), .val (.int (32768 : Int32))] [])) _
    rw [fold77]
    show Steps p.tables e below (T76.setTop (mkF m 182 #[.val (.ref a), .val (.long q), .second, .val (.int (4 : Int32)), .val (.int lw), .val (.int (2 : Int32)), .val (.int (32768 : Int32))] [])) _
    refine XS.goto X76.here hx rfl (pc0 := 182) (pc' := 78) rfl (hb hby own_d_prog_35_method_1_code_182) (by decide) (by decide) ?_
    exact kk_)
  have fold79 : ((4 : Int32) - (1 : Int32)) = (3 : Int32) := by decide +kernel
  obtain ⟨T80, X80, e80, st80⟩ := getF X76 hx hZ hown (host := "") (Or.inl (hw _ (List.mem_of_getElem? (i := 18) rfl))) Via.refl e76 F76_0 (g := (mkF m 102 #[.val (.ref a), .val (.long q), .second, .val (.int (4 : Int32)), .val (.int lw), .val (.int (2 : Int32)), .val (.int (32768 : Int32))] [(.ref a)])) rfl rfl (hb hby own_d_prog_35_method_1_code_102)
  obtain ⟨_, _, ⟨T81, L81, k81, n81⟩, -, X81, ⟨Lc81, hQ81, l81, y81, z81⟩, st81⟩ := Jvm.LawKit.callS X80 hx (y := (⟨"java/lang/Math", "min", "(II)I"⟩ : MethodName)) hown (mvT hZ (hw _ (List.mem_of_getElem? (i := 24) rfl))) (mvT hZ (hw _ (List.mem_of_getElem? (i := 25) rfl))) (mvT hZ (hw _ (List.mem_of_getElem? (i := 26) rfl))) (mvT hZ (hw _ (List.mem_of_getElem? (i := 27) rfl))) (by decide) (backOf (W := 2) (rmMin l Z a0 hw [] (32768 : Int32) (32764 : Int32) (32764 : Int32) h76 n0 z76 (by decide)) hZ (hw _ (List.mem_of_getElem? (i := 27) rfl)) (hw _ (List.mem_of_getElem? (i := 26) rfl)) (by decide) (by decide)) (g := (mkF m 112 #[.val (.ref a), .val (.long q), .second, .val (.int (4 : Int32)), .val (.int lw), .val (.int (2 : Int32)), .val (.int (32768 : Int32))] [(.int (32764 : Int32)), (.int (32768 : Int32)), (.int (2 : Int32)), (.ref b10)])) rfl (by rw [hml]; rfl) (argsL := [(.int (32768 : Int32)), (.int (32764 : Int32))]) (rest := [(.int (2 : Int32)), (.ref b10)]) (lenOf own_pd0 rfl) rfl (by show 2 * 0 + _ ≤ _; exact Nat.le_of_eq rfl) (hb hby own_d_prog_35_method_1_code_112) (fun _ _ => ⟨rfl, e80, (by decide : 7 + 0 ≤ _), (by decide : 65551 + 0 ≤ _)⟩)
  dsimp only [Pt.U, Pt.locs, Pt.cells, Pt.slots] at X81 l81 y81 z81 st81 hQ81
  replace l81 := l81.symm; subst l81 y81 z81
  obtain ⟨rfl, N81q, e81⟩ := hQ81
  have N81 := Fr.app N76 N81q
  obtain ⟨T82, h82, k82, X82, e82, E82, A82, Ea82, st82⟩ := newPE X81 hx hZ (hw _ (List.mem_of_getElem? (i := 28) rfl)) e81 (g := (mkF m 115 #[.val (.ref a), .val (.long q), .second, .val (.int (4 : Int32)), .val (.int lw), .val (.int (2 : Int32)), .val (.int (32768 : Int32))] [(.int (32764 : Int32)), (.int (2 : Int32)), (.ref b10)])) rfl (hb hby own_d_prog_35_method_1_code_115) rfl (by decide) (cap := 32764) (by decide) (by decide) (by decide) (by decide) (ad := "[J") (by decide +kernel)
  obtain ⟨b82, g82⟩ : ∃ z, z = h76.size := ⟨_, rfl⟩
  rw [← g82] at A82 st82 Ea82
  have g_b82 : n0 ≤ b82 := Nat.le_trans z76 (Nat.le_of_eq g82.symm)
  have sz_b82 : h0.size ≤ b82 := Nat.le_trans K76.1 (Nat.le_of_eq g82.symm)
  have F82_0 := F76_0.ext E82
  have F82_1 := F76_1.ext E82
  have F82_2 := F76_2.ext E82
  have X82_0 := X76_0.ext E82
  have S82_0 := S76_0.ext E82
  have V82_0 := V76_0.ext E82
  have V82_1 := V76_1.ext E82
  have V82_2 := V_b16_76.ext E82
  have V82_3 := V76_3.ext E82
  have V82_4 := V76_4.ext E82
  have V82_5 := V76_5.ext E82
  have V82_6 := V76_6.ext E82
  have z82 : n0 ≤ h82.size := Nat.le_trans z76 E82.1
  have K82 : Keep h0 h82 [a] := K76.ext E82
  have V_b82 : Arv Z h82 b82 k82 .long (32764 : Int32) [] (.long (0 : Int64)) := (Arv.new A82 (by decide)).pad (pad_rep [] (.long (0 : Int64)) 0)
  obtain ⟨cl83, Ar83, q83, S83, M83, H83, G83⟩ := id V82_0
  have hin83 : ¬ ((2 : Int32) < 0 ∨ cl83.slots.size ≤ ((2 : Int32)).toNatClampNeg) := inb_of S83 ⟨by decide, by decide⟩
  obtain ⟨T84, h84, X84, e84, W84, st84⟩ := stR X82 hx hZ e82 Ar83 (j := (2 : Int32)) hin83 rfl (own_stoA Ar83 q83 O10 (Ins.self Ea82)) (g := (mkF m 117 #[.val (.ref a), .val (.long q), .second, .val (.int (4 : Int32)), .val (.int lw), .val (.int (2 : Int32)), .val (.int (32768 : Int32))] [(.ref b82), (.int (2 : Int32)), (.ref b10)])) rfl rfl (hb hby own_d_prog_35_method_1_code_117)
  have V_b10_84 : Arv Z h84 b10 k10 (.array .long) (4 : Int32) [(.ref b22), (.ref b52), (.ref b82), .null] .null := Arv.set Ar83 q83 S83 M83 H83 G83 rfl W84 2 rfl (Nat.le_of_ble_eq_true rfl)
  have F84_0 := F82_0.other W84 (Or.inl ne_a_b10)
  have F84_1 := F82_1.other W84 (Or.inl ne_a_b10)
  have F84_2 := F82_2.other W84 (Or.inl ne_a_b10)
  have X84_0 := X82_0.wr W84
  have X84_1 := Ea82.wr W84
  have S84_0 := S82_0.wr W84
  have V84_1 := V82_1.other W84 (Ne.symm ne_b10_b12)
  have V84_2 := V82_2.other W84 (Ne.symm ne_b10_b16)
  have V84_3 := V82_3.other W84 (Ne.symm ne_b10_b22)
  have V84_4 := V82_4.other W84 (Ne.symm ne_b10_b29)
  have V84_5 := V82_5.other W84 (Ne.symm ne_b10_b52)
  have ne_b10_b59 : b10 ≠ b59 := Nat.ne_of_lt (Nat.lt_of_lt_of_le (V_b10_54).lt (Nat.le_of_eq g59.symm))
  have V84_6 := V82_6.other W84 (Ne.symm ne_b10_b59)
  have ne_b10_b82 : b10 ≠ b82 := Nat.ne_of_lt (Nat.lt_of_lt_of_le (V76_0).lt (Nat.le_of_eq g82.symm))
  have V84_7 := V_b82.other W84 (Ne.symm ne_b10_b82)
  have z84 : n0 ≤ h84.size := by rw [W84.size]; exact z82
  have K84 : Keep h0 h84 [a] := K82.wr W84 (Or.inr sz_b10)
  have N84 := Fr.snoc X84 N81 g_b10
  have pre85 : ∀ tt_, Steps p.tables e below (T84.setTop (mkF m 118 #[.val (.ref a), .val (.long q), .second, .val (.int (4 : Int32)), .val (.int lw), .val (.int (2 : Int32)), .val (.int (32768 : Int32))] [])) tt_ → Steps p.tables e below (s₁.setTop (entryFrame m #[(.ref a), (.long q)] 7)) tt_ := fun tt_ kk_ => pre78 tt_ (by
    show Steps p.tables e below (T76.setTop (mkF m 78 #[.val (.ref a), .val (.long q), .second, .val (.int (4 : Int32)), .val (.int lw), .val (.int (2 : Int32)), .val (.int (32768 : Int32))] [])) _
    refine XS.iload X76.here hx rfl (hb hby own_d_prog_35_method_1_code_78) rfl ?_
    refine XS.iloadN X76.here hx rfl (hb hby own_d_prog_35_method_1_code_80) rfl ?_
    refine XS.icmpNo X76.here hx rfl (hb hby own_d_prog_35_method_1_code_81) rfl (tlt ((by decide) : (2 : Int32) < (4 : Int32))).2.1 ?_
    refine XS.iload X76.here hx rfl (hb hby own_d_prog_35_method_1_code_84) rfl ?_
    refine XS.iloadN X76.here hx rfl (hb hby own_d_prog_35_method_1_code_86) rfl ?_
    refine XS.iconst X76.here hx rfl (hb hby own_d_prog_35_method_1_code_87) ?_
    show Steps p.tables e below (T76.setTop (mkF m 88 #[.val (.ref a), .val (.long q), .second, .val (.int (4 : Int32)), .val (.int lw), .val (.int (2 : Int32)), .val (.int (32768 : Int32))] [(.int (1 : Int32)), (.int (4 : Int32)), (.int (2 : Int32))])) _
    refine XS.isub X76.here hx rfl (hb hby own_d_prog_35_method_1_code_88) rfl ?_
    show Steps p.tables e below (T76.setTop (mkF m 89 #[.val (.ref a), .val (.long q), .second, .val (.int (4 : Int32)), .val (.int lw), .val (.int (2 : Int32)), .val (.int (32768 : Int32))] [(.int ((4 : Int32) - (1 : Int32))), (.int (2 : Int32))])) _
    rw [fold79]
    show Steps p.tables e below (T76.setTop (mkF m 89 #[.val (.ref a), .val (.long q), .second, .val (.int (4 : Int32)), .val (.int lw), .val (.int (2 : Int32)), .val (.int (32768 : Int32))] [(.int (3 : Int32)), (.int (2 : Int32))])) _
    refine XS.icmpNo X76.here hx rfl (hb hby own_d_prog_35_method_1_code_89) rfl (tlt ((by decide) : (2 : Int32) < (3 : Int32))).2.1 ?_
    refine X76.ldcInt hx hown (mvT hZ (hw _ (List.mem_of_getElem? (i := 52) rfl))) (g := (mkF m 92 #[.val (.ref a), .val (.long q), .second, .val (.int (4 : Int32)), .val (.int lw), .val (.int (2 : Int32)), .val (.int (32768 : Int32))] [])) rfl (hb hby own_d_prog_35_method_1_code_92) _ ?_
    refine XS.goto X76.here hx rfl (pc0 := 94) (pc' := 99) rfl (hb hby own_d_prog_35_method_1_code_94) (by decide) (by decide) ?_
    refine XS.istore X76.here hx rfl (hb hby own_d_prog_35_method_1_code_99) rfl (l' := #[.val (.ref a), .val (.long q), .second, .val (.int (4 : Int32)), .val (.int lw), .val (.int (2 : Int32)), .val (.int (32768 : Int32))]) rfl ?_
    refine XS.aloadN X76.here hx rfl (hb hby own_d_prog_35_method_1_code_101) rfl rfl ?_
    refine st80 _ ?_
    show Steps p.tables e below (T80.setTop (mkF m 105 #[.val (.ref a), .val (.long q), .second, .val (.int (4 : Int32)), .val (.int lw), .val (.int (2 : Int32)), .val (.int (32768 : Int32))] [(.ref b10)])) _
    refine XS.iload X80.here hx rfl (hb hby own_d_prog_35_method_1_code_105) rfl ?_
    refine XS.iload X80.here hx rfl (hb hby own_d_prog_35_method_1_code_107) rfl ?_
    refine XS.sipush X80.here hx rfl (hb hby own_d_prog_35_method_1_code_109) ?_
    show Steps p.tables e below (T80.setTop (mkF m 112 #[.val (.ref a), .val (.long q), .second, .val (.int (4 : Int32)), .val (.int lw), .val (.int (2 : Int32)), .val (.int (32768 : Int32))] [(.int (32764 : Int32)), (.int (32768 : Int32)), (.int (2 : Int32)), (.ref b10)])) _
    refine st81 _ ?_
    refine st82 _ ?_
    refine st84 _ ?_
    exact kk_)
  obtain ⟨T86, X86, e86, st86⟩ := getF X84 hx hZ hown (host := "") (Or.inl (hw _ (List.mem_of_getElem? (i := 20) rfl))) Via.refl e84 F84_1 (g := (mkF m 119 #[.val (.ref a), .val (.long q), .second, .val (.int (4 : Int32)), .val (.int lw), .val (.int (2 : Int32)), .val (.int (32768 : Int32))] [(.ref a)])) rfl rfl (hb hby own_d_prog_35_method_1_code_119)
  have fold87 : ((32768 : Int32) - (32764 : Int32)) = (4 : Int32) := by decide +kernel
  obtain ⟨_, _, ⟨T88, L88, k88, n88⟩, -, X88, ⟨Lc88, hQ88, l88, y88, z88⟩, st88⟩ := Jvm.LawKit.callS X86 hx (y := (⟨"java/lang/Math", "max", "(II)I"⟩ : MethodName)) hown (mvT hZ (hw _ (List.mem_of_getElem? (i := 30) rfl))) (mvT hZ (hw _ (List.mem_of_getElem? (i := 31) rfl))) (mvT hZ (hw _ (List.mem_of_getElem? (i := 26) rfl))) (mvT hZ (hw _ (List.mem_of_getElem? (i := 32) rfl))) (by decide) (backOf (W := 2) (rmMax l Z a0 hw [] (4 : Int32) (0 : Int32) (4 : Int32) h84 n0 z84 (by decide)) hZ (hw _ (List.mem_of_getElem? (i := 32) rfl)) (hw _ (List.mem_of_getElem? (i := 26) rfl)) (by decide) (by decide)) (g := (mkF m 131 #[.val (.ref a), .val (.long q), .second, .val (.int (4 : Int32)), .val (.int lw), .val (.int (2 : Int32)), .val (.int (32768 : Int32))] [(.int (0 : Int32)), (.int (4 : Int32)), (.int (2 : Int32)), (.ref b12)])) rfl (by rw [hml]; rfl) (argsL := [(.int (4 : Int32)), (.int (0 : Int32))]) (rest := [(.int (2 : Int32)), (.ref b12)]) (lenOf own_pd0 rfl) rfl (by show 2 * 0 + _ ≤ _; exact Nat.le_of_eq rfl) (hb hby own_d_prog_35_method_1_code_131) (fun _ _ => ⟨rfl, e86, (by decide : 8 + 0 ≤ _), (by decide : 98315 + 0 ≤ _)⟩)
  dsimp only [Pt.U, Pt.locs, Pt.cells, Pt.slots] at X88 l88 y88 z88 st88 hQ88
  replace l88 := l88.symm; subst l88 y88 z88
  obtain ⟨rfl, N88q, e88⟩ := hQ88
  have N88 := Fr.app N84 N88q
  obtain ⟨T89, h89, k89, X89, e89, E89, A89, Ea89, st89⟩ := newPE X88 hx hZ (hw _ (List.mem_of_getElem? (i := 28) rfl)) e88 (g := (mkF m 134 #[.val (.ref a), .val (.long q), .second, .val (.int (4 : Int32)), .val (.int lw), .val (.int (2 : Int32)), .val (.int (32768 : Int32))] [(.int (4 : Int32)), (.int (2 : Int32)), (.ref b12)])) rfl (hb hby own_d_prog_35_method_1_code_134) rfl (by decide) (cap := 4) (by decide) (by decide) (by decide) (by decide) (ad := "[J") (by decide +kernel)
  obtain ⟨b89, g89⟩ : ∃ z, z = h84.size := ⟨_, rfl⟩
  rw [← g89] at A89 st89 Ea89
  have g_b89 : n0 ≤ b89 := Nat.le_trans z84 (Nat.le_of_eq g89.symm)
  have sz_b89 : h0.size ≤ b89 := Nat.le_trans K84.1 (Nat.le_of_eq g89.symm)
  have F89_0 := F84_0.ext E89
  have F89_1 := F84_1.ext E89
  have F89_2 := F84_2.ext E89
  have X89_0 := X84_0.ext E89
  have X89_1 := X84_1.ext E89
  have S89_0 := S84_0.ext E89
  have V89_0 := V_b10_84.ext E89
  have V89_1 := V84_1.ext E89
  have V89_2 := V84_2.ext E89
  have V89_3 := V84_3.ext E89
  have V89_4 := V84_4.ext E89
  have V89_5 := V84_5.ext E89
  have V89_6 := V84_6.ext E89
  have V89_7 := V84_7.ext E89
  have z89 : n0 ≤ h89.size := Nat.le_trans z84 E89.1
  have K89 : Keep h0 h89 [a] := K84.ext E89
  have V_b89 : Arv Z h89 b89 k89 .long (4 : Int32) [] (.long (0 : Int64)) := (Arv.new A89 (by decide)).pad (pad_rep [] (.long (0 : Int64)) 0)
  obtain ⟨cl90, Ar90, q90, S90, M90, H90, G90⟩ := id V89_1
  have hin90 : ¬ ((2 : Int32) < 0 ∨ cl90.slots.size ≤ ((2 : Int32)).toNatClampNeg) := inb_of S90 ⟨by decide, by decide⟩
  obtain ⟨T91, h91, X91, e91, W91, st91⟩ := stR X89 hx hZ e89 Ar90 (j := (2 : Int32)) hin90 rfl (own_stoA Ar90 q90 O12 (Ins.self Ea89)) (g := (mkF m 136 #[.val (.ref a), .val (.long q), .second, .val (.int (4 : Int32)), .val (.int lw), .val (.int (2 : Int32)), .val (.int (32768 : Int32))] [(.ref b89), (.int (2 : Int32)), (.ref b12)])) rfl rfl (hb hby own_d_prog_35_method_1_code_136)
  have V_b12_91 : Arv Z h91 b12 k12 (.array .long) (4 : Int32) [(.ref b29), (.ref b59), (.ref b89), .null] .null := Arv.set Ar90 q90 S90 M90 H90 G90 rfl W91 2 rfl (Nat.le_of_ble_eq_true rfl)
  have F91_0 := F89_0.other W91 (Or.inl ne_a_b12)
  have F91_1 := F89_1.other W91 (Or.inl ne_a_b12)
  have F91_2 := F89_2.other W91 (Or.inl ne_a_b12)
  have X91_0 := X89_0.wr W91
  have X91_1 := X89_1.wr W91
  have X91_2 := Ea89.wr W91
  have S91_0 := S89_0.wr W91
  have V91_0 := V89_0.other W91 ne_b10_b12
  have V91_2 := V89_2.other W91 (Ne.symm ne_b12_b16)
  have V91_3 := V89_3.other W91 (Ne.symm ne_b12_b22)
  have V91_4 := V89_4.other W91 (Ne.symm ne_b12_b29)
  have V91_5 := V89_5.other W91 (Ne.symm ne_b12_b52)
  have V91_6 := V89_6.other W91 (Ne.symm ne_b12_b59)
  have ne_b12_b82 : b12 ≠ b82 := Nat.ne_of_lt (Nat.lt_of_lt_of_le (V76_1).lt (Nat.le_of_eq g82.symm))
  have V91_7 := V89_7.other W91 (Ne.symm ne_b12_b82)
  have ne_b12_b89 : b12 ≠ b89 := Nat.ne_of_lt (Nat.lt_of_lt_of_le (V84_1).lt (Nat.le_of_eq g89.symm))
  have V91_8 := V_b89.other W91 (Ne.symm ne_b12_b89)
  have z91 : n0 ≤ h91.size := by rw [W91.size]; exact z89
  have K91 : Keep h0 h91 [a] := K89.wr W91 (Or.inr sz_b12)
  have N91 := Fr.snoc X91 N88 g_b12
  have pre92 : ∀ tt_, Steps p.tables e below (T91.setTop (mkF m 137 #[.val (.ref a), .val (.long q), .second, .val (.int (4 : Int32)), .val (.int lw), .val (.int (2 : Int32)), .val (.int (32768 : Int32))] [])) tt_ → Steps p.tables e below (s₁.setTop (entryFrame m #[(.ref a), (.long q)] 7)) tt_ := fun tt_ kk_ => pre85 tt_ (by
    show Steps p.tables e below (T84.setTop (mkF m 118 #[.val (.ref a), .val (.long q), .second, .val (.int (4 : Int32)), .val (.int lw), .val (.int (2 : Int32)), .val (.int (32768 : Int32))] [])) _
    refine XS.aloadN X84.here hx rfl (hb hby own_d_prog_35_method_1_code_118) rfl rfl ?_
    refine st86 _ ?_
    refine XS.iload X86.here hx rfl (hb hby own_d_prog_35_method_1_code_122) rfl ?_
    refine XS.iload X86.here hx rfl (hb hby own_d_prog_35_method_1_code_124) rfl ?_
    show Steps p.tables e below (T86.setTop (mkF m 126 #[.val (.ref a), .val (.long q), .second, .val (.int (4 : Int32)), .val (.int lw), .val (.int (2 : Int32)), .val (.int (32768 : Int32))] [(.int (32768 : Int32)), (.int (2 : Int32)), (.ref b12)])) _
    refine XS.sipush X86.here hx rfl (hb hby own_d_prog_35_method_1_code_126) ?_
    refine XS.isub X86.here hx rfl (hb hby own_d_prog_35_method_1_code_129) rfl ?_
    show Steps p.tables e below (T86.setTop (mkF m 130 #[.val (.ref a), .val (.long q), .second, .val (.int (4 : Int32)), .val (.int lw), .val (.int (2 : Int32)), .val (.int (32768 : Int32))] [(.int ((32768 : Int32) - (32764 : Int32))), (.int (2 : Int32)), (.ref b12)])) _
    rw [fold87]
    show Steps p.tables e below (T86.setTop (mkF m 130 #[.val (.ref a), .val (.long q), .second, .val (.int (4 : Int32)), .val (.int lw), .val (.int (2 : Int32)), .val (.int (32768 : Int32))] [(.int (4 : Int32)), (.int (2 : Int32)), (.ref b12)])) _
    refine XS.iconst X86.here hx rfl (hb hby own_d_prog_35_method_1_code_130) ?_
    show Steps p.tables e below (T86.setTop (mkF m 131 #[.val (.ref a), .val (.long q), .second, .val (.int (4 : Int32)), .val (.int lw), .val (.int (2 : Int32)), .val (.int (32768 : Int32))] [(.int (0 : Int32)), (.int (4 : Int32)), (.int (2 : Int32)), (.ref b12)])) _
    refine st88 _ ?_
    refine st89 _ ?_
    refine st91 _ ?_
    exact kk_)
  obtain ⟨T93, X93, e93, st93⟩ := getF X91 hx hZ hown (host := "") (Or.inl (hw _ (List.mem_of_getElem? (i := 22) rfl))) Via.refl e91 F91_2 (g := (mkF m 138 #[.val (.ref a), .val (.long q), .second, .val (.int (4 : Int32)), .val (.int lw), .val (.int (2 : Int32)), .val (.int (32768 : Int32))] [(.ref a)])) rfl rfl (hb hby own_d_prog_35_method_1_code_138)
  have fold94 : ((2 : Int32) * (2 : Int32)) = (4 : Int32) := by decide +kernel
  obtain ⟨T95, X95, e95, st95⟩ := getF X93 hx hZ hown (host := "") (Or.inl (hw _ (List.mem_of_getElem? (i := 18) rfl))) Via.refl e93 F91_0 (g := (mkF m 146 #[.val (.ref a), .val (.long q), .second, .val (.int (4 : Int32)), .val (.int lw), .val (.int (2 : Int32)), .val (.int (32768 : Int32))] [(.ref a), (.int (4 : Int32)), (.ref b16)])) rfl rfl (hb hby own_d_prog_35_method_1_code_146)
  obtain ⟨cl96, Ar96, q96, S96, M96, H96, G96⟩ := id V91_0
  have hin96 : ¬ ((2 : Int32) < 0 ∨ cl96.slots.size ≤ ((2 : Int32)).toNatClampNeg) := inb_of S96 ⟨by decide, by decide⟩
  have hat96 : cl96.slots[((2 : Int32)).toNatClampNeg]? = some (.ref b82) := Has.at H96 hin96 rfl
  obtain ⟨cl97, Ar97, q97, S97, M97, H97, G97⟩ := id V91_2
  have hin97 : ¬ ((4 : Int32) < 0 ∨ cl97.slots.size ≤ ((4 : Int32)).toNatClampNeg) := inb_of S97 ⟨by decide, by decide⟩
  obtain ⟨T98, h98, X98, e98, W98, st98⟩ := stR X95 hx hZ e95 Ar97 (j := (4 : Int32)) hin97 rfl (own_stoA Ar97 q97 O16 (Ins.self X91_1)) (g := (mkF m 152 #[.val (.ref a), .val (.long q), .second, .val (.int (4 : Int32)), .val (.int lw), .val (.int (2 : Int32)), .val (.int (32768 : Int32))] [(.ref b82), (.int (4 : Int32)), (.ref b16)])) rfl rfl (hb hby own_d_prog_35_method_1_code_152)
  have V_b16_98 : Arv Z h98 b16 k16 (.array .long) (7 : Int32) [(.ref b22), (.ref b29), (.ref b52), (.ref b59), (.ref b82), .null, .null] .null := Arv.set Ar97 q97 S97 M97 H97 G97 rfl W98 4 rfl (Nat.le_of_ble_eq_true rfl)
  have F98_0 := F91_0.other W98 (Or.inl ne_a_b16)
  have F98_1 := F91_1.other W98 (Or.inl ne_a_b16)
  have F98_2 := F91_2.other W98 (Or.inl ne_a_b16)
  have X98_0 := X91_0.wr W98
  have X98_1 := X91_1.wr W98
  have X98_2 := X91_2.wr W98
  have S98_0 := S91_0.wr W98
  have V98_0 := V91_0.other W98 ne_b10_b16
  have V98_1 := V_b12_91.other W98 ne_b12_b16
  have V98_3 := V91_3.other W98 (Ne.symm ne_b16_b22)
  have V98_4 := V91_4.other W98 (Ne.symm ne_b16_b29)
  have V98_5 := V91_5.other W98 (Ne.symm ne_b16_b52)
  have V98_6 := V91_6.other W98 (Ne.symm ne_b16_b59)
  have ne_b16_b82 : b16 ≠ b82 := Nat.ne_of_lt (Nat.lt_of_lt_of_le (V_b16_76).lt (Nat.le_of_eq g82.symm))
  have V98_7 := V91_7.other W98 (Ne.symm ne_b16_b82)
  have ne_b16_b89 : b16 ≠ b89 := Nat.ne_of_lt (Nat.lt_of_lt_of_le (V84_2).lt (Nat.le_of_eq g89.symm))
  have V98_8 := V91_8.other W98 (Ne.symm ne_b16_b89)
  have z98 : n0 ≤ h98.size := by rw [W98.size]; exact z91
  have K98 : Keep h0 h98 [a] := K91.wr W98 (Or.inr sz_b16)
  have N98 := Fr.snoc X98 N91 g_b16
  have pre99 : ∀ tt_, Steps p.tables e below (T98.setTop (mkF m 153 #[.val (.ref a), .val (.long q), .second, .val (.int (4 : Int32)), .val (.int lw), .val (.int (2 : Int32)), .val (.int (32768 : Int32))] [])) tt_ → Steps p.tables e below (s₁.setTop (entryFrame m #[(.ref a), (.long q)] 7)) tt_ := fun tt_ kk_ => pre92 tt_ (by
    show Steps p.tables e below (T91.setTop (mkF m 137 #[.val (.ref a), .val (.long q), .second, .val (.int (4 : Int32)), .val (.int lw), .val (.int (2 : Int32)), .val (.int (32768 : Int32))] [])) _
    refine XS.aloadN X91.here hx rfl (hb hby own_d_prog_35_method_1_code_137) rfl rfl ?_
    refine st93 _ ?_
    refine XS.iconst X93.here hx rfl (hb hby own_d_prog_35_method_1_code_141) ?_
    refine XS.iload X93.here hx rfl (hb hby own_d_prog_35_method_1_code_142) rfl ?_
    show Steps p.tables e below (T93.setTop (mkF m 144 #[.val (.ref a), .val (.long q), .second, .val (.int (4 : Int32)), .val (.int lw), .val (.int (2 : Int32)), .val (.int (32768 : Int32))] [(.int (2 : Int32)), (.int (2 : Int32)), (.ref b16)])) _
    refine XS.imul X93.here hx rfl (hb hby own_d_prog_35_method_1_code_144) rfl ?_
    show Steps p.tables e below (T93.setTop (mkF m 145 #[.val (.ref a), .val (.long q), .second, .val (.int (4 : Int32)), .val (.int lw), .val (.int (2 : Int32)), .val (.int (32768 : Int32))] [(.int ((2 : Int32) * (2 : Int32))), (.ref b16)])) _
    rw [fold94]
    show Steps p.tables e below (T93.setTop (mkF m 145 #[.val (.ref a), .val (.long q), .second, .val (.int (4 : Int32)), .val (.int lw), .val (.int (2 : Int32)), .val (.int (32768 : Int32))] [(.int (4 : Int32)), (.ref b16)])) _
    refine XS.aloadN X93.here hx rfl (hb hby own_d_prog_35_method_1_code_145) rfl rfl ?_
    refine st95 _ ?_
    refine XS.iload X95.here hx rfl (hb hby own_d_prog_35_method_1_code_149) rfl ?_
    refine X95.aaload hx (j := (2 : Int32)) (v := (.ref b82)) (by rw [e95]; exact Ar96.1) (State.isArrayOf_alike hZ.alike Ar96.2.1) rfl Ar96.2.2 hin96 hat96 (g := (mkF m 151 #[.val (.ref a), .val (.long q), .second, .val (.int (4 : Int32)), .val (.int lw), .val (.int (2 : Int32)), .val (.int (32768 : Int32))] [(.int (2 : Int32)), (.ref b10), (.int (4 : Int32)), (.ref b16)])) rfl rfl (hb hby own_d_prog_35_method_1_code_151) _ ?_
    refine st98 _ ?_
    exact kk_)
  obtain ⟨T100, X100, e100, st100⟩ := getF X98 hx hZ hown (host := "") (Or.inl (hw _ (List.mem_of_getElem? (i := 22) rfl))) Via.refl e98 F98_2 (g := (mkF m 162 #[.val (.ref a), .val (.long q), .second, .val (.int (4 : Int32)), .val (.int lw), .val (.int (2 : Int32)), .val (.int (32768 : Int32))] [(.ref a)])) rfl rfl (hb hby own_d_prog_35_method_1_code_162)
  have fold101 : ((2 : Int32) * (2 : Int32)) = (4 : Int32) := by decide +kernel
  have fold102 : ((4 : Int32) + (1 : Int32)) = (5 : Int32) := by decide +kernel
  obtain ⟨T103, X103, e103, st103⟩ := getF X100 hx hZ hown (host := "") (Or.inl (hw _ (List.mem_of_getElem? (i := 20) rfl))) Via.refl e100 F98_1 (g := (mkF m 172 #[.val (.ref a), .val (.long q), .second, .val (.int (4 : Int32)), .val (.int lw), .val (.int (2 : Int32)), .val (.int (32768 : Int32))] [(.ref a), (.int (5 : Int32)), (.ref b16)])) rfl rfl (hb hby own_d_prog_35_method_1_code_172)
  obtain ⟨cl104, Ar104, q104, S104, M104, H104, G104⟩ := id V98_1
  have hin104 : ¬ ((2 : Int32) < 0 ∨ cl104.slots.size ≤ ((2 : Int32)).toNatClampNeg) := inb_of S104 ⟨by decide, by decide⟩
  have hat104 : cl104.slots[((2 : Int32)).toNatClampNeg]? = some (.ref b89) := Has.at H104 hin104 rfl
  obtain ⟨cl105, Ar105, q105, S105, M105, H105, G105⟩ := id V_b16_98
  have hin105 : ¬ ((5 : Int32) < 0 ∨ cl105.slots.size ≤ ((5 : Int32)).toNatClampNeg) := inb_of S105 ⟨by decide, by decide⟩
  obtain ⟨T106, h106, X106, e106, W106, st106⟩ := stR X103 hx hZ e103 Ar105 (j := (5 : Int32)) hin105 rfl (own_stoA Ar105 q105 O16 (Ins.self X98_2)) (g := (mkF m 178 #[.val (.ref a), .val (.long q), .second, .val (.int (4 : Int32)), .val (.int lw), .val (.int (2 : Int32)), .val (.int (32768 : Int32))] [(.ref b89), (.int (5 : Int32)), (.ref b16)])) rfl rfl (hb hby own_d_prog_35_method_1_code_178)
  have V_b16_106 : Arv Z h106 b16 k16 (.array .long) (7 : Int32) [(.ref b22), (.ref b29), (.ref b52), (.ref b59), (.ref b82), (.ref b89), .null] .null := Arv.set Ar105 q105 S105 M105 H105 G105 rfl W106 5 rfl (Nat.le_of_ble_eq_true rfl)
  have F106_0 := F98_0.other W106 (Or.inl ne_a_b16)
  have F106_1 := F98_1.other W106 (Or.inl ne_a_b16)
  have F106_2 := F98_2.other W106 (Or.inl ne_a_b16)
  have X106_0 := X98_0.wr W106
  have X106_1 := X98_1.wr W106
  have X106_2 := X98_2.wr W106
  have S106_0 := S98_0.wr W106
  have V106_0 := V98_0.other W106 ne_b10_b16
  have V106_1 := V98_1.other W106 ne_b12_b16
  have V106_3 := V98_3.other W106 (Ne.symm ne_b16_b22)
  have V106_4 := V98_4.other W106 (Ne.symm ne_b16_b29)
  have V106_5 := V98_5.other W106 (Ne.symm ne_b16_b52)
  have V106_6 := V98_6.other W106 (Ne.symm ne_b16_b59)
  have V106_7 := V98_7.other W106 (Ne.symm ne_b16_b82)
  have V106_8 := V98_8.other W106 (Ne.symm ne_b16_b89)
  have z106 : n0 ≤ h106.size := by rw [W106.size]; exact z98
  have K106 : Keep h0 h106 [a] := K98.wr W106 (Or.inr sz_b16)
  have N106 := Fr.snoc X106 N98 g_b16
  have fold107 : ((2 : Int32) + (1 : Int32)) = (3 : Int32) := by decide +kernel
  have pre108 : ∀ tt_, Steps p.tables e below (T106.setTop (mkF m 78 #[.val (.ref a), .val (.long q), .second, .val (.int (4 : Int32)), .val (.int lw), .val (.int (3 : Int32)), .val (.int (32768 : Int32))] [])) tt_ → Steps p.tables e below (s₁.setTop (entryFrame m #[(.ref a), (.long q)] 7)) tt_ := fun tt_ kk_ => pre99 tt_ (by
    show Steps p.tables e below (T98.setTop (mkF m 153 #[.val (.ref a), .val (.long q), .second, .val (.int (4 : Int32)), .val (.int lw), .val (.int (2 : Int32)), .val (.int (32768 : Int32))] [])) _
    refine XS.iload X98.here hx rfl (hb hby own_d_prog_35_method_1_code_153) rfl ?_
    refine XS.sipush X98.here hx rfl (hb hby own_d_prog_35_method_1_code_155) ?_
    show Steps p.tables e below (T98.setTop (mkF m 158 #[.val (.ref a), .val (.long q), .second, .val (.int (4 : Int32)), .val (.int lw), .val (.int (2 : Int32)), .val (.int (32768 : Int32))] [(.int (32764 : Int32)), (.int (32768 : Int32))])) _
    refine XS.icmpNo X98.here hx rfl (hb hby own_d_prog_35_method_1_code_158) rfl (tlt ((by decide) : (32764 : Int32) < (32768 : Int32))).2.2.2 ?_
    refine XS.aloadN X98.here hx rfl (hb hby own_d_prog_35_method_1_code_161) rfl rfl ?_
    refine st100 _ ?_
    refine XS.iconst X100.here hx rfl (hb hby own_d_prog_35_method_1_code_165) ?_
    refine XS.iload X100.here hx rfl (hb hby own_d_prog_35_method_1_code_166) rfl ?_
    refine XS.imul X100.here hx rfl (hb hby own_d_prog_35_method_1_code_168) rfl ?_
    show Steps p.tables e below (T100.setTop (mkF m 169 #[.val (.ref a), .val (.long q), .second, .val (.int (4 : Int32)), .val (.int lw), .val (.int (2 : Int32)), .val (.int (32768 : Int32))] [(.int ((2 : Int32) * (2 : Int32))), (.ref b16)])) _
    rw [fold101]
    show Steps p.tables e below (T100.setTop (mkF m 169 #[.val (.ref a), .val (.long q), .second, .val (.int (4 : Int32)), .val (.int lw), .val (.int (2 : Int32)), .val (.int (32768 : Int32))] [(.int (4 : Int32)), (.ref b16)])) _
    refine XS.iconst X100.here hx rfl (hb hby own_d_prog_35_method_1_code_169) ?_
    show Steps p.tables e below (T100.setTop (mkF m 170 #[.val (.ref a), .val (.long q), .second, .val (.int (4 : Int32)), .val (.int lw), .val (.int (2 : Int32)), .val (.int (32768 : Int32))] [(.int (1 : Int32)), (.int (4 : Int32)), (.ref b16)])) _
    refine XS.iadd X100.here hx rfl (hb hby own_d_prog_35_method_1_code_170) rfl ?_
    show Steps p.tables e below (T100.setTop (mkF m 171 #[.val (.ref a), .val (.long q), .second, .val (.int (4 : Int32)), .val (.int lw), .val (.int (2 : Int32)), .val (.int (32768 : Int32))] [(.int ((4 : Int32) + (1 : Int32))), (.ref b16)])) _
    rw [fold102]
    show Steps p.tables e below (T100.setTop (mkF m 171 #[.val (.ref a), .val (.long q), .second, .val (.int (4 : Int32)), .val (.int lw), .val (.int (2 : Int32)), .val (.int (32768 : Int32))] [(.int (5 : Int32)), (.ref b16)])) _
    refine XS.aloadN X100.here hx rfl (hb hby own_d_prog_35_method_1_code_171) rfl rfl ?_
    refine st103 _ ?_
    refine XS.iload X103.here hx rfl (hb hby own_d_prog_35_method_1_code_175) rfl ?_
    refine X103.aaload hx (j := (2 : Int32)) (v := (.ref b89)) (by rw [e103]; exact Ar104.1) (State.isArrayOf_alike hZ.alike Ar104.2.1) rfl Ar104.2.2 hin104 hat104 (g := (mkF m 177 #[.val (.ref a), .val (.long q), .second, .val (.int (4 : Int32)), .val (.int lw), .val (.int (2 : Int32)), .val (.int (32768 : Int32))] [(.int (2 : Int32)), (.ref b12), (.int (5 : Int32)), (.ref b16)])) rfl rfl (hb hby own_d_prog_35_method_1_code_177) _ ?_
    refine st106 _ ?_
    refine XS.iinc X106.here hx rfl (hb hby own_d_prog_35_method_1_code_179) rfl (l' := #[.val (.ref a), .val (.long q), .second, .val (.int (4 : Int32)), .val (.int lw), .val (.int ((2 : Int32) + (1 : Int32))), .val (.int (32768 : Int32))]) rfl ?_
    show Steps p.tables e below (T106.setTop (mkF m 182 #[.val (.ref a), .val (.long q), .second, .val (.int (4 : Int32)), .val (.int lw), .val (.int ((2 : Int32) + (1 : Int32))), .val (.int (32768 : Int32))] [])) _
    rw [fold107]
    show Steps p.tables e below (T106.setTop (mkF m 182 #[.val (.ref a), .val (.long q), .second, .val (.int (4 : Int32)), .val (.int lw), .val (.int (3 : Int32)), .val (.int (32768 : Int32))] [])) _
    refine XS.goto X106.here hx rfl (pc0 := 182) (pc' := 78) rfl (hb hby own_d_prog_35_method_1_code_182) (by decide) (by decide) ?_
    exact kk_)
  have fold109 : ((4 : Int32) - (1 : Int32)) = (3 : Int32) := by decide +kernel
  obtain ⟨T110, X110, e110, st110⟩ := getF X106 hx hZ hown (host := "") (Or.inl (hw _ (List.mem_of_getElem? (i := 18) rfl))) Via.refl e106 F106_0 (g := (mkF m 102 #[.val (.ref a), .val (.long q), .second, .val (.int (4 : Int32)), .val (.int lw), .val (.int (3 : Int32)), .val (.int lw)] [(.ref a)])) rfl rfl (hb hby own_d_prog_35_method_1_code_102)
  obtain ⟨_, _, ⟨T111, L111, k111, n111⟩, -, X111, ⟨Lc111, hQ111, l111, y111, z111⟩, st111⟩ := Jvm.LawKit.callS X110 hx (y := (⟨"java/lang/Math", "min", "(II)I"⟩ : MethodName)) hown (mvT hZ (hw _ (List.mem_of_getElem? (i := 24) rfl))) (mvT hZ (hw _ (List.mem_of_getElem? (i := 25) rfl))) (mvT hZ (hw _ (List.mem_of_getElem? (i := 26) rfl))) (mvT hZ (hw _ (List.mem_of_getElem? (i := 27) rfl))) (by decide) (backOf (W := 2) (rmMin l Z a0 hw [] lw (32764 : Int32) (own_min lw (32764 : Int32)) h106 n0 z106 rfl) hZ (hw _ (List.mem_of_getElem? (i := 27) rfl)) (hw _ (List.mem_of_getElem? (i := 26) rfl)) (by decide) (by decide)) (g := (mkF m 112 #[.val (.ref a), .val (.long q), .second, .val (.int (4 : Int32)), .val (.int lw), .val (.int (3 : Int32)), .val (.int lw)] [(.int (32764 : Int32)), (.int lw), (.int (3 : Int32)), (.ref b10)])) rfl (by rw [hml]; rfl) (argsL := [(.int lw), (.int (32764 : Int32))]) (rest := [(.int (3 : Int32)), (.ref b10)]) (lenOf own_pd0 rfl) rfl (by show 2 * 0 + _ ≤ _; exact Nat.le_of_eq rfl) (hb hby own_d_prog_35_method_1_code_112) (fun _ _ => ⟨rfl, e110, (by decide : 9 + 0 ≤ _), (by decide : 98319 + 0 ≤ _)⟩)
  dsimp only [Pt.U, Pt.locs, Pt.cells, Pt.slots] at X111 l111 y111 z111 st111 hQ111
  replace l111 := l111.symm; subst l111 y111 z111
  obtain ⟨rfl, N111q, e111⟩ := hQ111
  have N111 := Fr.app N106 N111q
  obtain ⟨T112, h112, k112, X112, e112, E112, A112, Ea112, st112⟩ := newPE X111 hx hZ (hw _ (List.mem_of_getElem? (i := 28) rfl)) e111 (g := (mkF m 115 #[.val (.ref a), .val (.long q), .second, .val (.int (4 : Int32)), .val (.int lw), .val (.int (3 : Int32)), .val (.int lw)] [(.int (own_min lw (32764 : Int32))), (.int (3 : Int32)), (.ref b10)])) rfl (hb hby own_d_prog_35_method_1_code_115) rfl (own_hneg hlb) (cap := 32764) (own_hcap hlb) (by decide) (by decide) (by decide) (ad := "[J") (by decide +kernel)
  obtain ⟨b112, g112⟩ : ∃ z, z = h106.size := ⟨_, rfl⟩
  rw [← g112] at A112 st112 Ea112
  have g_b112 : n0 ≤ b112 := Nat.le_trans z106 (Nat.le_of_eq g112.symm)
  have sz_b112 : h0.size ≤ b112 := Nat.le_trans K106.1 (Nat.le_of_eq g112.symm)
  have F112_0 := F106_0.ext E112
  have F112_1 := F106_1.ext E112
  have F112_2 := F106_2.ext E112
  have X112_0 := X106_0.ext E112
  have S112_0 := S106_0.ext E112
  have V112_0 := V106_0.ext E112
  have V112_1 := V106_1.ext E112
  have V112_2 := V_b16_106.ext E112
  have V112_3 := V106_3.ext E112
  have V112_4 := V106_4.ext E112
  have V112_5 := V106_5.ext E112
  have V112_6 := V106_6.ext E112
  have V112_7 := V106_7.ext E112
  have V112_8 := V106_8.ext E112
  have z112 : n0 ≤ h112.size := Nat.le_trans z106 E112.1
  have K112 : Keep h0 h112 [a] := K106.ext E112
  have V_b112 : Arv Z h112 b112 k112 .long (own_min lw (32764 : Int32)) [] (.long (0 : Int64)) := (Arv.new A112 (own_hneg hlb)).pad (pad_rep [] (.long (0 : Int64)) 0)
  obtain ⟨cl113, Ar113, q113, S113, M113, H113, G113⟩ := id V112_0
  have hin113 : ¬ ((3 : Int32) < 0 ∨ cl113.slots.size ≤ ((3 : Int32)).toNatClampNeg) := inb_of S113 ⟨by decide, by decide⟩
  obtain ⟨T114, h114, X114, e114, W114, st114⟩ := stR X112 hx hZ e112 Ar113 (j := (3 : Int32)) hin113 rfl (own_stoA Ar113 q113 O10 (Ins.self Ea112)) (g := (mkF m 117 #[.val (.ref a), .val (.long q), .second, .val (.int (4 : Int32)), .val (.int lw), .val (.int (3 : Int32)), .val (.int lw)] [(.ref b112), (.int (3 : Int32)), (.ref b10)])) rfl rfl (hb hby own_d_prog_35_method_1_code_117)
  have V_b10_114 : Arv Z h114 b10 k10 (.array .long) (4 : Int32) [(.ref b22), (.ref b52), (.ref b82), (.ref b112)] .null := Arv.set Ar113 q113 S113 M113 H113 G113 rfl W114 3 rfl (Nat.le_of_ble_eq_true rfl)
  have F114_0 := F112_0.other W114 (Or.inl ne_a_b10)
  have F114_1 := F112_1.other W114 (Or.inl ne_a_b10)
  have F114_2 := F112_2.other W114 (Or.inl ne_a_b10)
  have X114_0 := X112_0.wr W114
  have X114_1 := Ea112.wr W114
  have S114_0 := S112_0.wr W114
  have V114_1 := V112_1.other W114 (Ne.symm ne_b10_b12)
  have V114_2 := V112_2.other W114 (Ne.symm ne_b10_b16)
  have V114_3 := V112_3.other W114 (Ne.symm ne_b10_b22)
  have V114_4 := V112_4.other W114 (Ne.symm ne_b10_b29)
  have V114_5 := V112_5.other W114 (Ne.symm ne_b10_b52)
  have V114_6 := V112_6.other W114 (Ne.symm ne_b10_b59)
  have V114_7 := V112_7.other W114 (Ne.symm ne_b10_b82)
  have ne_b10_b89 : b10 ≠ b89 := Nat.ne_of_lt (Nat.lt_of_lt_of_le (V_b10_84).lt (Nat.le_of_eq g89.symm))
  have V114_8 := V112_8.other W114 (Ne.symm ne_b10_b89)
  have ne_b10_b112 : b10 ≠ b112 := Nat.ne_of_lt (Nat.lt_of_lt_of_le (V106_0).lt (Nat.le_of_eq g112.symm))
  have V114_9 := V_b112.other W114 (Ne.symm ne_b10_b112)
  have z114 : n0 ≤ h114.size := by rw [W114.size]; exact z112
  have K114 : Keep h0 h114 [a] := K112.wr W114 (Or.inr sz_b10)
  have N114 := Fr.snoc X114 N111 g_b10
  have pre115 : ∀ tt_, Steps p.tables e below (T114.setTop (mkF m 118 #[.val (.ref a), .val (.long q), .second, .val (.int (4 : Int32)), .val (.int lw), .val (.int (3 : Int32)), .val (.int lw)] [])) tt_ → Steps p.tables e below (s₁.setTop (entryFrame m #[(.ref a), (.long q)] 7)) tt_ := fun tt_ kk_ => pre108 tt_ (by
    show Steps p.tables e below (T106.setTop (mkF m 78 #[.val (.ref a), .val (.long q), .second, .val (.int (4 : Int32)), .val (.int lw), .val (.int (3 : Int32)), .val (.int (32768 : Int32))] [])) _
    refine XS.iload X106.here hx rfl (hb hby own_d_prog_35_method_1_code_78) rfl ?_
    refine XS.iloadN X106.here hx rfl (hb hby own_d_prog_35_method_1_code_80) rfl ?_
    refine XS.icmpNo X106.here hx rfl (hb hby own_d_prog_35_method_1_code_81) rfl (tlt ((by decide) : (3 : Int32) < (4 : Int32))).2.1 ?_
    refine XS.iload X106.here hx rfl (hb hby own_d_prog_35_method_1_code_84) rfl ?_
    refine XS.iloadN X106.here hx rfl (hb hby own_d_prog_35_method_1_code_86) rfl ?_
    refine XS.iconst X106.here hx rfl (hb hby own_d_prog_35_method_1_code_87) ?_
    show Steps p.tables e below (T106.setTop (mkF m 88 #[.val (.ref a), .val (.long q), .second, .val (.int (4 : Int32)), .val (.int lw), .val (.int (3 : Int32)), .val (.int (32768 : Int32))] [(.int (1 : Int32)), (.int (4 : Int32)), (.int (3 : Int32))])) _
    refine XS.isub X106.here hx rfl (hb hby own_d_prog_35_method_1_code_88) rfl ?_
    show Steps p.tables e below (T106.setTop (mkF m 89 #[.val (.ref a), .val (.long q), .second, .val (.int (4 : Int32)), .val (.int lw), .val (.int (3 : Int32)), .val (.int (32768 : Int32))] [(.int ((4 : Int32) - (1 : Int32))), (.int (3 : Int32))])) _
    rw [fold109]
    show Steps p.tables e below (T106.setTop (mkF m 89 #[.val (.ref a), .val (.long q), .second, .val (.int (4 : Int32)), .val (.int lw), .val (.int (3 : Int32)), .val (.int (32768 : Int32))] [(.int (3 : Int32)), (.int (3 : Int32))])) _
    refine XS.icmpYes X106.here hx rfl (pc0 := 89) (pc' := 97) rfl (hb hby own_d_prog_35_method_1_code_89) rfl (flt ((by decide) : ¬ ((3 : Int32) < (3 : Int32)))).2.1 (by decide) (by decide) ?_
    refine XS.iload X106.here hx rfl (hb hby own_d_prog_35_method_1_code_97) rfl ?_
    refine XS.istore X106.here hx rfl (hb hby own_d_prog_35_method_1_code_99) rfl (l' := #[.val (.ref a), .val (.long q), .second, .val (.int (4 : Int32)), .val (.int lw), .val (.int (3 : Int32)), .val (.int lw)]) rfl ?_
    refine XS.aloadN X106.here hx rfl (hb hby own_d_prog_35_method_1_code_101) rfl rfl ?_
    refine st110 _ ?_
    refine XS.iload X110.here hx rfl (hb hby own_d_prog_35_method_1_code_105) rfl ?_
    show Steps p.tables e below (T110.setTop (mkF m 107 #[.val (.ref a), .val (.long q), .second, .val (.int (4 : Int32)), .val (.int lw), .val (.int (3 : Int32)), .val (.int lw)] [(.int (3 : Int32)), (.ref b10)])) _
    refine XS.iload X110.here hx rfl (hb hby own_d_prog_35_method_1_code_107) rfl ?_
    refine XS.sipush X110.here hx rfl (hb hby own_d_prog_35_method_1_code_109) ?_
    show Steps p.tables e below (T110.setTop (mkF m 112 #[.val (.ref a), .val (.long q), .second, .val (.int (4 : Int32)), .val (.int lw), .val (.int (3 : Int32)), .val (.int lw)] [(.int (32764 : Int32)), (.int lw), (.int (3 : Int32)), (.ref b10)])) _
    refine st111 _ ?_
    refine st112 _ ?_
    refine st114 _ ?_
    exact kk_)
  obtain ⟨T116, X116, e116, st116⟩ := getF X114 hx hZ hown (host := "") (Or.inl (hw _ (List.mem_of_getElem? (i := 20) rfl))) Via.refl e114 F114_1 (g := (mkF m 119 #[.val (.ref a), .val (.long q), .second, .val (.int (4 : Int32)), .val (.int lw), .val (.int (3 : Int32)), .val (.int lw)] [(.ref a)])) rfl rfl (hb hby own_d_prog_35_method_1_code_119)
  obtain ⟨_, _, ⟨T117, L117, k117, n117⟩, -, X117, ⟨Lc117, hQ117, l117, y117, z117⟩, st117⟩ := Jvm.LawKit.callS X116 hx (y := (⟨"java/lang/Math", "max", "(II)I"⟩ : MethodName)) hown (mvT hZ (hw _ (List.mem_of_getElem? (i := 30) rfl))) (mvT hZ (hw _ (List.mem_of_getElem? (i := 31) rfl))) (mvT hZ (hw _ (List.mem_of_getElem? (i := 26) rfl))) (mvT hZ (hw _ (List.mem_of_getElem? (i := 32) rfl))) (by decide) (backOf (W := 2) (rmMax l Z a0 hw [] (lw - (32764 : Int32)) (0 : Int32) (own_max (lw - (32764 : Int32)) (0 : Int32)) h114 n0 z114 rfl) hZ (hw _ (List.mem_of_getElem? (i := 32) rfl)) (hw _ (List.mem_of_getElem? (i := 26) rfl)) (by decide) (by decide)) (g := (mkF m 131 #[.val (.ref a), .val (.long q), .second, .val (.int (4 : Int32)), .val (.int lw), .val (.int (3 : Int32)), .val (.int lw)] [(.int (0 : Int32)), (.int (lw - (32764 : Int32))), (.int (3 : Int32)), (.ref b12)])) rfl (by rw [hml]; rfl) (argsL := [(.int (lw - (32764 : Int32))), (.int (0 : Int32))]) (rest := [(.int (3 : Int32)), (.ref b12)]) (lenOf own_pd0 rfl) rfl (by show 2 * 0 + _ ≤ _; exact Nat.le_of_eq rfl) (hb hby own_d_prog_35_method_1_code_131) (fun _ _ => ⟨rfl, e116, (by decide : 10 + 0 ≤ _), (by decide : 131083 + 0 ≤ _)⟩)
  dsimp only [Pt.U, Pt.locs, Pt.cells, Pt.slots] at X117 l117 y117 z117 st117 hQ117
  replace l117 := l117.symm; subst l117 y117 z117
  obtain ⟨rfl, N117q, e117⟩ := hQ117
  have N117 := Fr.app N114 N117q
  obtain ⟨T118, h118, k118, X118, e118, E118, A118, Ea118, st118⟩ := newPE X117 hx hZ (hw _ (List.mem_of_getElem? (i := 28) rfl)) e117 (g := (mkF m 134 #[.val (.ref a), .val (.long q), .second, .val (.int (4 : Int32)), .val (.int lw), .val (.int (3 : Int32)), .val (.int lw)] [(.int (own_max (lw - (32764 : Int32)) (0 : Int32))), (.int (3 : Int32)), (.ref b12)])) rfl (hb hby own_d_prog_35_method_1_code_134) rfl (own_tneg hlb) (cap := 4) (own_tcap hlb) (by decide) (by decide) (by decide) (ad := "[J") (by decide +kernel)
  obtain ⟨b118, g118⟩ : ∃ z, z = h114.size := ⟨_, rfl⟩
  rw [← g118] at A118 st118 Ea118
  have g_b118 : n0 ≤ b118 := Nat.le_trans z114 (Nat.le_of_eq g118.symm)
  have sz_b118 : h0.size ≤ b118 := Nat.le_trans K114.1 (Nat.le_of_eq g118.symm)
  have F118_0 := F114_0.ext E118
  have F118_1 := F114_1.ext E118
  have F118_2 := F114_2.ext E118
  have X118_0 := X114_0.ext E118
  have X118_1 := X114_1.ext E118
  have S118_0 := S114_0.ext E118
  have V118_0 := V_b10_114.ext E118
  have V118_1 := V114_1.ext E118
  have V118_2 := V114_2.ext E118
  have V118_3 := V114_3.ext E118
  have V118_4 := V114_4.ext E118
  have V118_5 := V114_5.ext E118
  have V118_6 := V114_6.ext E118
  have V118_7 := V114_7.ext E118
  have V118_8 := V114_8.ext E118
  have V118_9 := V114_9.ext E118
  have z118 : n0 ≤ h118.size := Nat.le_trans z114 E118.1
  have K118 : Keep h0 h118 [a] := K114.ext E118
  have V_b118 : Arv Z h118 b118 k118 .long (own_max (lw - (32764 : Int32)) (0 : Int32)) [] (.long (0 : Int64)) := (Arv.new A118 (own_tneg hlb)).pad (pad_rep [] (.long (0 : Int64)) 0)
  obtain ⟨cl119, Ar119, q119, S119, M119, H119, G119⟩ := id V118_1
  have hin119 : ¬ ((3 : Int32) < 0 ∨ cl119.slots.size ≤ ((3 : Int32)).toNatClampNeg) := inb_of S119 ⟨by decide, by decide⟩
  obtain ⟨T120, h120, X120, e120, W120, st120⟩ := stR X118 hx hZ e118 Ar119 (j := (3 : Int32)) hin119 rfl (own_stoA Ar119 q119 O12 (Ins.self Ea118)) (g := (mkF m 136 #[.val (.ref a), .val (.long q), .second, .val (.int (4 : Int32)), .val (.int lw), .val (.int (3 : Int32)), .val (.int lw)] [(.ref b118), (.int (3 : Int32)), (.ref b12)])) rfl rfl (hb hby own_d_prog_35_method_1_code_136)
  have V_b12_120 : Arv Z h120 b12 k12 (.array .long) (4 : Int32) [(.ref b29), (.ref b59), (.ref b89), (.ref b118)] .null := Arv.set Ar119 q119 S119 M119 H119 G119 rfl W120 3 rfl (Nat.le_of_ble_eq_true rfl)
  have F120_0 := F118_0.other W120 (Or.inl ne_a_b12)
  have F120_1 := F118_1.other W120 (Or.inl ne_a_b12)
  have F120_2 := F118_2.other W120 (Or.inl ne_a_b12)
  have X120_0 := X118_0.wr W120
  have X120_1 := X118_1.wr W120
  have X120_2 := Ea118.wr W120
  have S120_0 := S118_0.wr W120
  have V120_0 := V118_0.other W120 ne_b10_b12
  have V120_2 := V118_2.other W120 (Ne.symm ne_b12_b16)
  have V120_3 := V118_3.other W120 (Ne.symm ne_b12_b22)
  have V120_4 := V118_4.other W120 (Ne.symm ne_b12_b29)
  have V120_5 := V118_5.other W120 (Ne.symm ne_b12_b52)
  have V120_6 := V118_6.other W120 (Ne.symm ne_b12_b59)
  have V120_7 := V118_7.other W120 (Ne.symm ne_b12_b82)
  have V120_8 := V118_8.other W120 (Ne.symm ne_b12_b89)
  have ne_b12_b112 : b12 ≠ b112 := Nat.ne_of_lt (Nat.lt_of_lt_of_le (V106_1).lt (Nat.le_of_eq g112.symm))
  have V120_9 := V118_9.other W120 (Ne.symm ne_b12_b112)
  have ne_b12_b118 : b12 ≠ b118 := Nat.ne_of_lt (Nat.lt_of_lt_of_le (V114_1).lt (Nat.le_of_eq g118.symm))
  have V120_10 := V_b118.other W120 (Ne.symm ne_b12_b118)
  have z120 : n0 ≤ h120.size := by rw [W120.size]; exact z118
  have K120 : Keep h0 h120 [a] := K118.wr W120 (Or.inr sz_b12)
  have N120 := Fr.snoc X120 N117 g_b12
  have pre121 : ∀ tt_, Steps p.tables e below (T120.setTop (mkF m 137 #[.val (.ref a), .val (.long q), .second, .val (.int (4 : Int32)), .val (.int lw), .val (.int (3 : Int32)), .val (.int lw)] [])) tt_ → Steps p.tables e below (s₁.setTop (entryFrame m #[(.ref a), (.long q)] 7)) tt_ := fun tt_ kk_ => pre115 tt_ (by
    show Steps p.tables e below (T114.setTop (mkF m 118 #[.val (.ref a), .val (.long q), .second, .val (.int (4 : Int32)), .val (.int lw), .val (.int (3 : Int32)), .val (.int lw)] [])) _
    refine XS.aloadN X114.here hx rfl (hb hby own_d_prog_35_method_1_code_118) rfl rfl ?_
    refine st116 _ ?_
    refine XS.iload X116.here hx rfl (hb hby own_d_prog_35_method_1_code_122) rfl ?_
    refine XS.iload X116.here hx rfl (hb hby own_d_prog_35_method_1_code_124) rfl ?_
    refine XS.sipush X116.here hx rfl (hb hby own_d_prog_35_method_1_code_126) ?_
    show Steps p.tables e below (T116.setTop (mkF m 129 #[.val (.ref a), .val (.long q), .second, .val (.int (4 : Int32)), .val (.int lw), .val (.int (3 : Int32)), .val (.int lw)] [(.int (32764 : Int32)), (.int lw), (.int (3 : Int32)), (.ref b12)])) _
    refine XS.isub X116.here hx rfl (hb hby own_d_prog_35_method_1_code_129) rfl ?_
    refine XS.iconst X116.here hx rfl (hb hby own_d_prog_35_method_1_code_130) ?_
    show Steps p.tables e below (T116.setTop (mkF m 131 #[.val (.ref a), .val (.long q), .second, .val (.int (4 : Int32)), .val (.int lw), .val (.int (3 : Int32)), .val (.int lw)] [(.int (0 : Int32)), (.int (lw - (32764 : Int32))), (.int (3 : Int32)), (.ref b12)])) _
    refine st117 _ ?_
    refine st118 _ ?_
    refine st120 _ ?_
    exact kk_)
  obtain ⟨T122, X122, e122, st122⟩ := getF X120 hx hZ hown (host := "") (Or.inl (hw _ (List.mem_of_getElem? (i := 22) rfl))) Via.refl e120 F120_2 (g := (mkF m 138 #[.val (.ref a), .val (.long q), .second, .val (.int (4 : Int32)), .val (.int lw), .val (.int (3 : Int32)), .val (.int lw)] [(.ref a)])) rfl rfl (hb hby own_d_prog_35_method_1_code_138)
  have fold123 : ((2 : Int32) * (3 : Int32)) = (6 : Int32) := by decide +kernel
  obtain ⟨T124, X124, e124, st124⟩ := getF X122 hx hZ hown (host := "") (Or.inl (hw _ (List.mem_of_getElem? (i := 18) rfl))) Via.refl e122 F120_0 (g := (mkF m 146 #[.val (.ref a), .val (.long q), .second, .val (.int (4 : Int32)), .val (.int lw), .val (.int (3 : Int32)), .val (.int lw)] [(.ref a), (.int (6 : Int32)), (.ref b16)])) rfl rfl (hb hby own_d_prog_35_method_1_code_146)
  obtain ⟨cl125, Ar125, q125, S125, M125, H125, G125⟩ := id V120_0
  have hin125 : ¬ ((3 : Int32) < 0 ∨ cl125.slots.size ≤ ((3 : Int32)).toNatClampNeg) := inb_of S125 ⟨by decide, by decide⟩
  have hat125 : cl125.slots[((3 : Int32)).toNatClampNeg]? = some (.ref b112) := Has.at H125 hin125 rfl
  obtain ⟨cl126, Ar126, q126, S126, M126, H126, G126⟩ := id V120_2
  have hin126 : ¬ ((6 : Int32) < 0 ∨ cl126.slots.size ≤ ((6 : Int32)).toNatClampNeg) := inb_of S126 ⟨by decide, by decide⟩
  obtain ⟨T127, h127, X127, e127, W127, st127⟩ := stR X124 hx hZ e124 Ar126 (j := (6 : Int32)) hin126 rfl (own_stoA Ar126 q126 O16 (Ins.self X120_1)) (g := (mkF m 152 #[.val (.ref a), .val (.long q), .second, .val (.int (4 : Int32)), .val (.int lw), .val (.int (3 : Int32)), .val (.int lw)] [(.ref b112), (.int (6 : Int32)), (.ref b16)])) rfl rfl (hb hby own_d_prog_35_method_1_code_152)
  have V_b16_127 : Arv Z h127 b16 k16 (.array .long) (7 : Int32) [(.ref b22), (.ref b29), (.ref b52), (.ref b59), (.ref b82), (.ref b89), (.ref b112)] .null := Arv.set Ar126 q126 S126 M126 H126 G126 rfl W127 6 rfl (Nat.le_of_ble_eq_true rfl)
  have F127_0 := F120_0.other W127 (Or.inl ne_a_b16)
  have F127_1 := F120_1.other W127 (Or.inl ne_a_b16)
  have F127_2 := F120_2.other W127 (Or.inl ne_a_b16)
  have X127_0 := X120_0.wr W127
  have X127_1 := X120_1.wr W127
  have X127_2 := X120_2.wr W127
  have S127_0 := S120_0.wr W127
  have V127_0 := V120_0.other W127 ne_b10_b16
  have V127_1 := V_b12_120.other W127 ne_b12_b16
  have V127_3 := V120_3.other W127 (Ne.symm ne_b16_b22)
  have V127_4 := V120_4.other W127 (Ne.symm ne_b16_b29)
  have V127_5 := V120_5.other W127 (Ne.symm ne_b16_b52)
  have V127_6 := V120_6.other W127 (Ne.symm ne_b16_b59)
  have V127_7 := V120_7.other W127 (Ne.symm ne_b16_b82)
  have V127_8 := V120_8.other W127 (Ne.symm ne_b16_b89)
  have ne_b16_b112 : b16 ≠ b112 := Nat.ne_of_lt (Nat.lt_of_lt_of_le (V_b16_106).lt (Nat.le_of_eq g112.symm))
  have V127_9 := V120_9.other W127 (Ne.symm ne_b16_b112)
  have ne_b16_b118 : b16 ≠ b118 := Nat.ne_of_lt (Nat.lt_of_lt_of_le (V114_2).lt (Nat.le_of_eq g118.symm))
  have V127_10 := V120_10.other W127 (Ne.symm ne_b16_b118)
  have z127 : n0 ≤ h127.size := by rw [W127.size]; exact z120
  have K127 : Keep h0 h127 [a] := K120.wr W127 (Or.inr sz_b16)
  have N127 := Fr.snoc X127 N120 g_b16
  have pre128 : ∀ tt_, Steps p.tables e below (T127.setTop (mkF m 153 #[.val (.ref a), .val (.long q), .second, .val (.int (4 : Int32)), .val (.int lw), .val (.int (3 : Int32)), .val (.int lw)] [])) tt_ → Steps p.tables e below (s₁.setTop (entryFrame m #[(.ref a), (.long q)] 7)) tt_ := fun tt_ kk_ => pre121 tt_ (by
    show Steps p.tables e below (T120.setTop (mkF m 137 #[.val (.ref a), .val (.long q), .second, .val (.int (4 : Int32)), .val (.int lw), .val (.int (3 : Int32)), .val (.int lw)] [])) _
    refine XS.aloadN X120.here hx rfl (hb hby own_d_prog_35_method_1_code_137) rfl rfl ?_
    refine st122 _ ?_
    refine XS.iconst X122.here hx rfl (hb hby own_d_prog_35_method_1_code_141) ?_
    refine XS.iload X122.here hx rfl (hb hby own_d_prog_35_method_1_code_142) rfl ?_
    refine XS.imul X122.here hx rfl (hb hby own_d_prog_35_method_1_code_144) rfl ?_
    show Steps p.tables e below (T122.setTop (mkF m 145 #[.val (.ref a), .val (.long q), .second, .val (.int (4 : Int32)), .val (.int lw), .val (.int (3 : Int32)), .val (.int lw)] [(.int ((2 : Int32) * (3 : Int32))), (.ref b16)])) _
    rw [fold123]
    show Steps p.tables e below (T122.setTop (mkF m 145 #[.val (.ref a), .val (.long q), .second, .val (.int (4 : Int32)), .val (.int lw), .val (.int (3 : Int32)), .val (.int lw)] [(.int (6 : Int32)), (.ref b16)])) _
    refine XS.aloadN X122.here hx rfl (hb hby own_d_prog_35_method_1_code_145) rfl rfl ?_
    refine st124 _ ?_
    refine XS.iload X124.here hx rfl (hb hby own_d_prog_35_method_1_code_149) rfl ?_
    refine X124.aaload hx (j := (3 : Int32)) (v := (.ref b112)) (by rw [e124]; exact Ar125.1) (State.isArrayOf_alike hZ.alike Ar125.2.1) rfl Ar125.2.2 hin125 hat125 (g := (mkF m 151 #[.val (.ref a), .val (.long q), .second, .val (.int (4 : Int32)), .val (.int lw), .val (.int (3 : Int32)), .val (.int lw)] [(.int (3 : Int32)), (.ref b10), (.int (6 : Int32)), (.ref b16)])) rfl rfl (hb hby own_d_prog_35_method_1_code_151) _ ?_
    refine st127 _ ?_
    exact kk_)
  have fold129 : ((3 : Int32) + (1 : Int32)) = (4 : Int32) := by decide +kernel
  have pre130 : ∀ tt_, Steps p.tables e below (T127.setTop (mkF m 78 #[.val (.ref a), .val (.long q), .second, .val (.int (4 : Int32)), .val (.int lw), .val (.int (4 : Int32)), .val (.int lw)] [])) tt_ → Steps p.tables e below (s₁.setTop (entryFrame m #[(.ref a), (.long q)] 7)) tt_ := fun tt_ kk_ => pre128 tt_ (by
    show Steps p.tables e below (T127.setTop (mkF m 153 #[.val (.ref a), .val (.long q), .second, .val (.int (4 : Int32)), .val (.int lw), .val (.int (3 : Int32)), .val (.int lw)] [])) _
    refine XS.iload X127.here hx rfl (hb hby own_d_prog_35_method_1_code_153) rfl ?_
    refine XS.sipush X127.here hx rfl (hb hby own_d_prog_35_method_1_code_155) ?_
    refine XS.icmpYes X127.here hx rfl (pc0 := 158) (pc' := 179) rfl (hb hby own_d_prog_35_method_1_code_158) rfl (flt (ht : ¬ ((32764 : Int32) < lw))).2.2.2 (by decide) (by decide) ?_
    show Steps p.tables e below (T127.setTop (mkF m 179 #[.val (.ref a), .val (.long q), .second, .val (.int (4 : Int32)), .val (.int lw), .val (.int (3 : Int32)), .val (.int lw)] [])) _
    refine XS.iinc X127.here hx rfl (hb hby own_d_prog_35_method_1_code_179) rfl (l' := #[.val (.ref a), .val (.long q), .second, .val (.int (4 : Int32)), .val (.int lw), .val (.int ((3 : Int32) + (1 : Int32))), .val (.int lw)]) rfl ?_
    show Steps p.tables e below (T127.setTop (mkF m 182 #[.val (.ref a), .val (.long q), .second, .val (.int (4 : Int32)), .val (.int lw), .val (.int ((3 : Int32) + (1 : Int32))), .val (.int lw)] [])) _
    rw [fold129]
    show Steps p.tables e below (T127.setTop (mkF m 182 #[.val (.ref a), .val (.long q), .second, .val (.int (4 : Int32)), .val (.int lw), .val (.int (4 : Int32)), .val (.int lw)] [])) _
    refine XS.goto X127.here hx rfl (pc0 := 182) (pc' := 78) rfl (hb hby own_d_prog_35_method_1_code_182) (by decide) (by decide) ?_
    exact kk_)
  have pre131 : ∀ tt_, Steps p.tables e below (T127.setTop (mkF m 185 #[.val (.ref a), .val (.long q), .second, .val (.int (4 : Int32)), .val (.int lw), .val (.int (4 : Int32)), .val (.int lw)] [])) tt_ → Steps p.tables e below (s₁.setTop (entryFrame m #[(.ref a), (.long q)] 7)) tt_ := fun tt_ kk_ => pre130 tt_ (by
    show Steps p.tables e below (T127.setTop (mkF m 78 #[.val (.ref a), .val (.long q), .second, .val (.int (4 : Int32)), .val (.int lw), .val (.int (4 : Int32)), .val (.int lw)] [])) _
    refine XS.iload X127.here hx rfl (hb hby own_d_prog_35_method_1_code_78) rfl ?_
    refine XS.iloadN X127.here hx rfl (hb hby own_d_prog_35_method_1_code_80) rfl ?_
    refine XS.icmpYes X127.here hx rfl (pc0 := 81) (pc' := 185) rfl (hb hby own_d_prog_35_method_1_code_81) rfl (flt ((by decide) : ¬ ((4 : Int32) < (4 : Int32)))).2.1 (by decide) (by decide) ?_
    exact kk_)
  obtain ⟨fs, hr, hrun, hended, hW, hsame⟩ := X127.leave (v := none) (fun _ => rfl)
  refine ⟨_, _, pre131 _ ?_, hrun, hended, _, _, rfl, ?_, ⟨_, rfl⟩, hW, hsame.mono (by decide) (by decide)⟩
  · show Steps p.tables e below (T127.setTop (mkF m 185 #[.val (.ref a), .val (.long q), .second, .val (.int (4 : Int32)), .val (.int lw), .val (.int (4 : Int32)), .val (.int lw)] [])) _
    exact X127.returnOut hx Bd.returns (hb hby own_d_prog_35_method_1_code_185) hr
  · show QI Z a 4 lw h0 n0 _ T127.heap _
    rw [e127]
    have H1 : ∀ pg : Nat, pg < 4 → ∃ r, ([(.ref b22), (.ref b52), (.ref b82), (.ref b112)] : List Value).getD pg .null = .ref r ∧ ([(.ref b22), (.ref b29), (.ref b52), (.ref b59), (.ref b82), (.ref b89), (.ref b112)] : List Value).getD (2 * pg) .null = .ref r ∧ own_Len Z h127 r .long (own_lenH 4 lw pg) := by
      intro pg hp
      obtain rfl | rfl | rfl | rfl := own_lt4 hp
      · exact ⟨b22, rfl, rfl, own_Len.of (Arv.arh V127_3)⟩
      · exact ⟨b52, rfl, rfl, own_Len.of (Arv.arh V127_5)⟩
      · exact ⟨b82, rfl, rfl, own_Len.of (Arv.arh V127_7)⟩
      · exact ⟨b112, rfl, rfl, own_Len.of (Arv.arh V127_9)⟩
    have H2 : ∀ pg : Nat, pg < 4 → (pg + 1 < 4 ∨ (32764 : Int32) < lw) → ∃ r, ([(.ref b29), (.ref b59), (.ref b89), (.ref b118)] : List Value).getD pg .null = .ref r ∧ ([(.ref b22), (.ref b29), (.ref b52), (.ref b59), (.ref b82), (.ref b89), (.ref b112)] : List Value).getD (2 * pg + 1) .null = .ref r ∧ own_Len Z h127 r .long (own_lenT 4 lw pg) := by
      intro pg hp hq
      obtain rfl | rfl | rfl | rfl := own_lt4 hp
      · exact ⟨b29, rfl, rfl, own_Len.of (Arv.arh V127_4)⟩
      · exact ⟨b59, rfl, rfl, own_Len.of (Arv.arh V127_6)⟩
      · exact ⟨b89, rfl, rfl, own_Len.of (Arv.arh V127_8)⟩
      · exact absurd hq (fun q => q.elim (by decide) ht)
    exact ⟨rfl, N127, K127, b10, _, _, b12, _, _, b16, _, _, _, F127_0, F127_1, F127_2, V127_0, V127_1, V_b16_127, by rw [if_neg ht]; decide, H1, H2⟩
set_option maxRecDepth 65536 in
set_option maxHeartbeats 40000000 in
theorem rmI (l : Launch) (Z : State) (a0 : Array Value) (hw : ∀ d ∈ tables_1, d.before a0 Z = true) (ws : List Jvm.Cond) (a : Addr) (q : Int64) (p : Nat) (lw : Int32) (h0 : Heap) (n0 : Nat) (Z0 : n0 ≤ h0.size) (E_a : Exa Z h0 a "com/example/elderflower/elderflower/PagedWords") (g_a : n0 ≤ a) (F_size : Fld Z h0 a "com/example/elderflower/elderflower/PagedWords" "size" "J" (.long (0 : Int64))) (F_heads : Fld Z h0 a "com/example/elderflower/elderflower/PagedWords" "heads" "[[J" .null) (F_tails : Fld Z h0 a "com/example/elderflower/elderflower/PagedWords" "tails" "[[J" .null) (F_arrays : Fld Z h0 a "com/example/elderflower/elderflower/PagedWords" "arrays" "[[J" .null) (S_PAGE_SHIFT : Sta Z h0 "com/example/elderflower/elderflower/PagedWords" "PAGE_SHIFT" "I" (.int (15 : Int32))) (hp : p = 1 ∨ p = 2 ∨ p = 3 ∨ p = 4) (hpg : ((((q + (32768 : Int64)) - (1 : Int64)).toUInt64 >>> ((15 : Int32) &&& 0x3f).toInt64.toUInt64).toInt64).toInt32 = Int32.ofNat p) (hlw : (q - Int64.ofNat ((p - 1) * 32768)).toInt32 = lw) (hlb : own_LW lw) :
    MetFree l (⟨"com/example/elderflower/elderflower/PagedWords", "<init>", "(J)V"⟩ : MethodName) (head1 (Jvm.Cond.code (⟨"com/example/elderflower/elderflower/PagedWords", "<init>", "(J)V"⟩ : MethodName) prog_35_method_1_code 7 none :: ws) ({ frames := 1, cells := 11, slots := 131088, locals := 15 } : Room)) (fun ar_ U => ar_ = #[(.ref a), (.long q)] ∧ Z.Warmed39 U.vm ∧ U.heap = h0) (fun _ _ _ _ _ => True) (fun _ U o U' => ∃ v L, o = .returned v ∧ QI Z a p lw h0 n0 v U'.heap L ∧ FrameEnd U o U' L ({ frames := 1, cells := 11, slots := 131088, locals := 15 } : Room).cells ({ frames := 1, cells := 11, slots := 131088, locals := 15 } : Room).slots) := by
  by_cases ht : (32764 : Int32) < lw
  · rcases hp with rfl | rfl | rfl | rfl
    · exact rmI_1_1 l Z a0 hw ws a q lw h0 n0 Z0 E_a g_a F_size F_heads F_tails F_arrays S_PAGE_SHIFT hpg hlw hlb ht
    · exact rmI_2_1 l Z a0 hw ws a q lw h0 n0 Z0 E_a g_a F_size F_heads F_tails F_arrays S_PAGE_SHIFT hpg hlw hlb ht
    · exact rmI_3_1 l Z a0 hw ws a q lw h0 n0 Z0 E_a g_a F_size F_heads F_tails F_arrays S_PAGE_SHIFT hpg hlw hlb ht
    · exact rmI_4_1 l Z a0 hw ws a q lw h0 n0 Z0 E_a g_a F_size F_heads F_tails F_arrays S_PAGE_SHIFT hpg hlw hlb ht
  · rcases hp with rfl | rfl | rfl | rfl
    · exact rmI_1_0 l Z a0 hw ws a q lw h0 n0 Z0 E_a g_a F_size F_heads F_tails F_arrays S_PAGE_SHIFT hpg hlw hlb ht
    · exact rmI_2_0 l Z a0 hw ws a q lw h0 n0 Z0 E_a g_a F_size F_heads F_tails F_arrays S_PAGE_SHIFT hpg hlw hlb ht
    · exact rmI_3_0 l Z a0 hw ws a q lw h0 n0 Z0 E_a g_a F_size F_heads F_tails F_arrays S_PAGE_SHIFT hpg hlw hlb ht
    · exact rmI_4_0 l Z a0 hw ws a q lw h0 n0 Z0 E_a g_a F_size F_heads F_tails F_arrays S_PAGE_SHIFT hpg hlw hlb ht
theorem own_ef_rmR (m : MethodId) (y0 : Addr) : entryFrame m #[(.ref y0)] 1 = mkF m 0 #[.val (.ref y0)] [] := by first | (simp [entryFrame, mkF, argsToLocals, Value.category]; done) | rfl
set_option maxRecDepth 65536 in
set_option maxHeartbeats 40000000 in
theorem rmR (l : Launch) (Z : State) (a0 : Array Value) (hw : ∀ d ∈ tables_1, d.before a0 Z = true) (ws : List Jvm.Cond) (a r : Addr) (h0 : Heap) (n0 : Nat) (Z0 : n0 ≤ h0.size) (F : Fld Z h0 a "com/example/elderflower/elderflower/PagedWords" "arrays" "[[J" (.ref r)) :
    MetFree l (⟨"com/example/elderflower/elderflower/PagedWords", "arrays", "()[[J"⟩ : MethodName) (head1 (Jvm.Cond.code (⟨"com/example/elderflower/elderflower/PagedWords", "arrays", "()[[J"⟩ : MethodName) prog_35_method_3_code 1 (some (.array (.array .long))) :: ws) ({ frames := 0, cells := 0, slots := 0, locals := 0 } : Room)) (fun ar_ U => ar_ = #[(.ref a)] ∧ Z.Warmed39 U.vm ∧ U.heap = h0) (fun _ _ _ _ _ => True) (fun _ U o U' => ∃ v L, o = .returned v ∧ QP (.ref r) h0 n0 v U'.heap L ∧ FrameEnd U o U' L ({ frames := 0, cells := 0, slots := 0, locals := 0 } : Room).cells ({ frames := 0, cells := 0, slots := 0, locals := 0 } : Room).slots) := by
  refine MetFree.of_bodySF (plainFor_of_name own_pn0) hisR ?_
  intro p e s m args below meth c s₁ Bd hml0 hP hK
  obtain ⟨rfl, hZ, hh⟩ := hP
  have hx := Bd.exec
  have hby := Bd.bytes
  have hml : c.maxLocals = 1 := hml0
  have hown : s.vm.findClass "com/example/elderflower/elderflower/PagedWords" = some m.cls := findClass_of_methodNamed Bd.named
  have hnm := (name_of_methodNamed Bd.named Bd.method).1
  have X0 : Stand p l e ({ frames := 0, cells := 0, slots := 0, locals := 0 } : Room) s m #[(.ref a)] below meth c s₁ [] 0 0 := Stand.of_body Bd
  have e0 : s₁.heap = h0 := by rw [← hh, Bd.state]; rfl
  have N0 := Fr.nil n0
  have pre0 : ∀ tt_, Steps p.tables e below (s₁.setTop (mkF m 0 #[.val (.ref a)] [])) tt_ → Steps p.tables e below (s₁.setTop (entryFrame m #[(.ref a)] 1)) tt_ := fun tt_ kk_ => castTop (own_ef_rmR m a) kk_
  obtain ⟨T1, X1, e1, st1⟩ := getF X0 hx hZ hown (host := "") (Or.inl (hw _ (List.mem_of_getElem? (i := 22) rfl))) Via.refl e0 F (g := (mkF m 1 #[.val (.ref a)] [(.ref a)])) rfl rfl (hb hby own_d_prog_35_method_3_code_1)
  have pre2 : ∀ tt_, Steps p.tables e below (T1.setTop (mkF m 4 #[.val (.ref a)] [(.ref r)])) tt_ → Steps p.tables e below (s₁.setTop (entryFrame m #[(.ref a)] 1)) tt_ := fun tt_ kk_ => pre0 tt_ (by
    show Steps p.tables e below (s₁.setTop (mkF m 0 #[.val (.ref a)] [])) _
    refine XS.aloadN X0.here hx rfl (hb hby own_d_prog_35_method_3_code_0) rfl rfl ?_
    refine st1 _ ?_
    exact kk_)
  obtain ⟨fs, hr, hrun, hended, hW, hsame⟩ := X1.leave (v := some (.ref r)) (fun h => by rw [Bd.returns] at h; cases h)
  refine ⟨_, _, pre2 _ ?_, hrun, hended, _, _, rfl, ?_, ⟨_, rfl⟩, hW, hsame.mono (by decide) (by decide)⟩
  · show Steps p.tables e below (T1.setTop (mkF m 4 #[.val (.ref a)] [(.ref r)])) _
    exact retOut X1 hx (t := (.array (.array .long))) (i := .areturn) Bd.returns rfl (Or.inr (Or.inr (Or.inr (Or.inr ⟨rfl, rfl, rfl⟩)))) (hb hby own_d_prog_35_method_3_code_4) hr
  · show QP (.ref r) h0 n0 _ T1.heap _
    rw [e1]
    exact ⟨rfl, N0, rfl⟩
theorem own_ef_rmAh (m : MethodId) (y0 : Addr) (y1 : Int64) : entryFrame m #[(.ref y0), (.long y1)] 5 = mkF m 0 #[.val (.ref y0), .val (.long y1), .second, .unset, .unset] [] := by first | (simp [entryFrame, mkF, argsToLocals, Value.category]; done) | rfl
set_option maxRecDepth 65536 in
set_option maxHeartbeats 40000000 in
theorem rmAh (l : Launch) (Z : State) (a0 : Array Value) (hw : ∀ d ∈ tables_1, d.before a0 Z = true) (ws : List Jvm.Cond) (a : Addr) (q : Int64) (hd r : Addr) (k : ClassId) (n pg : Int32) (vs : List Value) (h0 : Heap) (n0 : Nat) (Z0 : n0 ≤ h0.size) (S_PAGE_SHIFT : Sta Z h0 "com/example/elderflower/elderflower/PagedWords" "PAGE_SHIFT" "I" (.int (15 : Int32))) (F : Fld Z h0 a "com/example/elderflower/elderflower/PagedWords" "heads" "[[J" (.ref hd)) (A : Arv Z h0 hd k (.array .long) n vs .null) (hpg : ((q.toUInt64 >>> ((15 : Int32) &&& 0x3f).toInt64.toUInt64).toInt64).toInt32 = pg) (hlo : (q.toInt32 &&& (32767 : Int32)) < (32764 : Int32)) (hi : ¬ pg < 0 ∧ pg < n) (hv : vs.getD pg.toNatClampNeg .null = .ref r) :
    MetFree l (⟨"com/example/elderflower/elderflower/PagedWords", "arrayOf", "(J)[J"⟩ : MethodName) (head1 (Jvm.Cond.code (⟨"com/example/elderflower/elderflower/PagedWords", "arrayOf", "(J)[J"⟩ : MethodName) prog_35_method_5_code 5 (some (.array .long)) :: ws) ({ frames := 0, cells := 0, slots := 0, locals := 0 } : Room)) (fun ar_ U => ar_ = #[(.ref a), (.long q)] ∧ Z.Warmed39 U.vm ∧ U.heap = h0) (fun _ _ _ _ _ => True) (fun _ U o U' => ∃ v L, o = .returned v ∧ QP (.ref r) h0 n0 v U'.heap L ∧ FrameEnd U o U' L ({ frames := 0, cells := 0, slots := 0, locals := 0 } : Room).cells ({ frames := 0, cells := 0, slots := 0, locals := 0 } : Room).slots) := by
  refine MetFree.of_bodySF (plainFor_of_name own_pn0) hisR ?_
  intro p e s m args below meth c s₁ Bd hml0 hP hK
  obtain ⟨rfl, hZ, hh⟩ := hP
  have hx := Bd.exec
  have hby := Bd.bytes
  have hml : c.maxLocals = 5 := hml0
  have hown : s.vm.findClass "com/example/elderflower/elderflower/PagedWords" = some m.cls := findClass_of_methodNamed Bd.named
  have hnm := (name_of_methodNamed Bd.named Bd.method).1
  have X0 : Stand p l e ({ frames := 0, cells := 0, slots := 0, locals := 0 } : Room) s m #[(.ref a), (.long q)] below meth c s₁ [] 0 0 := Stand.of_body Bd
  have e0 : s₁.heap = h0 := by rw [← hh, Bd.state]; rfl
  have N0 := Fr.nil n0
  have pre0 : ∀ tt_, Steps p.tables e below (s₁.setTop (mkF m 0 #[.val (.ref a), .val (.long q), .second, .unset, .unset] [])) tt_ → Steps p.tables e below (s₁.setTop (entryFrame m #[(.ref a), (.long q)] 5)) tt_ := fun tt_ kk_ => castTop (own_ef_rmAh m a q) kk_
  obtain ⟨T1, X1, e1, st1⟩ := getS2 X0 hx hZ hown (host := "") (Or.inl (hw _ (List.mem_of_getElem? (i := 12) rfl))) Via.refl e0 S_PAGE_SHIFT (g := (mkF m 1 #[.val (.ref a), .val (.long q), .second, .unset, .unset] [(.long q)])) rfl (hb hby own_d_prog_35_method_5_code_1)
  have pre2 : ∀ tt_, Steps p.tables e below (T1.setTop (mkF m 6 #[.val (.ref a), .val (.long q), .second, .unset, .unset] [(.int (((q.toUInt64 >>> ((15 : Int32) &&& 0x3f).toInt64.toUInt64).toInt64).toInt32))])) tt_ → Steps p.tables e below (s₁.setTop (entryFrame m #[(.ref a), (.long q)] 5)) tt_ := fun tt_ kk_ => pre0 tt_ (by
    show Steps p.tables e below (s₁.setTop (mkF m 0 #[.val (.ref a), .val (.long q), .second, .unset, .unset] [])) _
    refine XS.lloadN X0.here hx rfl (hb hby own_d_prog_35_method_5_code_0) rfl ?_
    refine st1 _ ?_
    refine XS.lushr X1.here hx rfl (hb hby own_d_prog_35_method_5_code_4) rfl ?_
    refine XS.l2i X1.here hx rfl (hb hby own_d_prog_35_method_5_code_5) rfl ?_
    exact kk_)
  rw [hpg] at pre2
  obtain ⟨T3, X3, e3, st3⟩ := getF X1 hx hZ hown (host := "") (Or.inl (hw _ (List.mem_of_getElem? (i := 18) rfl))) Via.refl e1 F (g := (mkF m 32 #[.val (.ref a), .val (.long q), .second, .val (.int pg), .val (.int (1 : Int32))] [(.ref a)])) rfl rfl (hb hby own_d_prog_35_method_5_code_32)
  obtain ⟨cl4, Ar4, q4, S4, M4, H4, G4⟩ := id A
  have hin4 : ¬ (pg < 0 ∨ cl4.slots.size ≤ (pg).toNatClampNeg) := inb_of S4 hi
  have hat4 : cl4.slots[(pg).toNatClampNeg]? = some (.ref r) := Has.at H4 hin4 hv
  have pre5 : ∀ tt_, Steps p.tables e below (T3.setTop (mkF m 46 #[.val (.ref a), .val (.long q), .second, .val (.int pg), .val (.int (1 : Int32))] [(.ref r)])) tt_ → Steps p.tables e below (s₁.setTop (entryFrame m #[(.ref a), (.long q)] 5)) tt_ := fun tt_ kk_ => pre2 tt_ (by
    show Steps p.tables e below (T1.setTop (mkF m 6 #[.val (.ref a), .val (.long q), .second, .unset, .unset] [(.int pg)])) _
    refine XS.istoreN X1.here hx rfl (hb hby own_d_prog_35_method_5_code_6) rfl (l' := #[.val (.ref a), .val (.long q), .second, .val (.int pg), .unset]) rfl ?_
    refine XS.lloadN X1.here hx rfl (hb hby own_d_prog_35_method_5_code_7) rfl ?_
    show Steps p.tables e below (T1.setTop (mkF m 8 #[.val (.ref a), .val (.long q), .second, .val (.int pg), .unset] [(.long q)])) _
    refine XS.l2i X1.here hx rfl (hb hby own_d_prog_35_method_5_code_8) rfl ?_
    refine XS.sipush X1.here hx rfl (hb hby own_d_prog_35_method_5_code_9) ?_
    refine XS.iand X1.here hx rfl (hb hby own_d_prog_35_method_5_code_12) rfl ?_
    refine XS.sipush X1.here hx rfl (hb hby own_d_prog_35_method_5_code_13) ?_
    refine XS.icmpNo X1.here hx rfl (hb hby own_d_prog_35_method_5_code_16) rfl (tlt (hlo : ((q.toInt32) &&& (32767 : Int32)) < (32764 : Int32))).2.1 ?_
    refine XS.iconst X1.here hx rfl (hb hby own_d_prog_35_method_5_code_19) ?_
    show Steps p.tables e below (T1.setTop (mkF m 20 #[.val (.ref a), .val (.long q), .second, .val (.int pg), .unset] [(.int (1 : Int32))])) _
    refine XS.goto X1.here hx rfl (pc0 := 20) (pc' := 24) rfl (hb hby own_d_prog_35_method_5_code_20) (by decide) (by decide) ?_
    refine XS.istore X1.here hx rfl (hb hby own_d_prog_35_method_5_code_24) rfl (l' := #[.val (.ref a), .val (.long q), .second, .val (.int pg), .val (.int (1 : Int32))]) rfl ?_
    refine XS.iload X1.here hx rfl (hb hby own_d_prog_35_method_5_code_26) rfl ?_
    refine XS.ifNo X1.here hx rfl (hb hby own_d_prog_35_method_5_code_28) rfl ((if0 _ _).trans (feq ((by decide) : ¬ ((1 : Int32) = (0 : Int32)))).1) ?_
    refine XS.aloadN X1.here hx rfl (hb hby own_d_prog_35_method_5_code_31) rfl rfl ?_
    refine st3 _ ?_
    refine XS.iloadN X3.here hx rfl (hb hby own_d_prog_35_method_5_code_35) rfl ?_
    show Steps p.tables e below (T3.setTop (mkF m 36 #[.val (.ref a), .val (.long q), .second, .val (.int pg), .val (.int (1 : Int32))] [(.int pg), (.ref hd)])) _
    refine X3.aaload hx (j := pg) (v := (.ref r)) (by rw [e3]; exact Ar4.1) (State.isArrayOf_alike hZ.alike Ar4.2.1) rfl Ar4.2.2 hin4 hat4 (g := (mkF m 36 #[.val (.ref a), .val (.long q), .second, .val (.int pg), .val (.int (1 : Int32))] [(.int pg), (.ref hd)])) rfl rfl (hb hby own_d_prog_35_method_5_code_36) _ ?_
    refine XS.goto X3.here hx rfl (pc0 := 37) (pc' := 46) rfl (hb hby own_d_prog_35_method_5_code_37) (by decide) (by decide) ?_
    exact kk_)
  obtain ⟨fs, hr, hrun, hended, hW, hsame⟩ := X3.leave (v := some (.ref r)) (fun h => by rw [Bd.returns] at h; cases h)
  refine ⟨_, _, pre5 _ ?_, hrun, hended, _, _, rfl, ?_, ⟨_, rfl⟩, hW, hsame.mono (by decide) (by decide)⟩
  · show Steps p.tables e below (T3.setTop (mkF m 46 #[.val (.ref a), .val (.long q), .second, .val (.int pg), .val (.int (1 : Int32))] [(.ref r)])) _
    exact retOut X3 hx (t := (.array .long)) (i := .areturn) Bd.returns rfl (Or.inr (Or.inr (Or.inr (Or.inr ⟨rfl, rfl, rfl⟩)))) (hb hby own_d_prog_35_method_5_code_46) hr
  · show QP (.ref r) h0 n0 _ T3.heap _
    rw [e3]
    exact ⟨rfl, N0, rfl⟩
theorem own_ef_rmAt (m : MethodId) (y0 : Addr) (y1 : Int64) : entryFrame m #[(.ref y0), (.long y1)] 5 = mkF m 0 #[.val (.ref y0), .val (.long y1), .second, .unset, .unset] [] := by first | (simp [entryFrame, mkF, argsToLocals, Value.category]; done) | rfl
set_option maxRecDepth 65536 in
set_option maxHeartbeats 40000000 in
theorem rmAt (l : Launch) (Z : State) (a0 : Array Value) (hw : ∀ d ∈ tables_1, d.before a0 Z = true) (ws : List Jvm.Cond) (a : Addr) (q : Int64) (hd r : Addr) (k : ClassId) (n pg : Int32) (vs : List Value) (h0 : Heap) (n0 : Nat) (Z0 : n0 ≤ h0.size) (S_PAGE_SHIFT : Sta Z h0 "com/example/elderflower/elderflower/PagedWords" "PAGE_SHIFT" "I" (.int (15 : Int32))) (F : Fld Z h0 a "com/example/elderflower/elderflower/PagedWords" "tails" "[[J" (.ref hd)) (A : Arv Z h0 hd k (.array .long) n vs .null) (hpg : ((q.toUInt64 >>> ((15 : Int32) &&& 0x3f).toInt64.toUInt64).toInt64).toInt32 = pg) (hlo : ¬ (q.toInt32 &&& (32767 : Int32)) < (32764 : Int32)) (hi : ¬ pg < 0 ∧ pg < n) (hv : vs.getD pg.toNatClampNeg .null = .ref r) :
    MetFree l (⟨"com/example/elderflower/elderflower/PagedWords", "arrayOf", "(J)[J"⟩ : MethodName) (head1 (Jvm.Cond.code (⟨"com/example/elderflower/elderflower/PagedWords", "arrayOf", "(J)[J"⟩ : MethodName) prog_35_method_5_code 5 (some (.array .long)) :: ws) ({ frames := 0, cells := 0, slots := 0, locals := 0 } : Room)) (fun ar_ U => ar_ = #[(.ref a), (.long q)] ∧ Z.Warmed39 U.vm ∧ U.heap = h0) (fun _ _ _ _ _ => True) (fun _ U o U' => ∃ v L, o = .returned v ∧ QP (.ref r) h0 n0 v U'.heap L ∧ FrameEnd U o U' L ({ frames := 0, cells := 0, slots := 0, locals := 0 } : Room).cells ({ frames := 0, cells := 0, slots := 0, locals := 0 } : Room).slots) := by
  refine MetFree.of_bodySF (plainFor_of_name own_pn0) hisR ?_
  intro p e s m args below meth c s₁ Bd hml0 hP hK
  obtain ⟨rfl, hZ, hh⟩ := hP
  have hx := Bd.exec
  have hby := Bd.bytes
  have hml : c.maxLocals = 5 := hml0
  have hown : s.vm.findClass "com/example/elderflower/elderflower/PagedWords" = some m.cls := findClass_of_methodNamed Bd.named
  have hnm := (name_of_methodNamed Bd.named Bd.method).1
  have X0 : Stand p l e ({ frames := 0, cells := 0, slots := 0, locals := 0 } : Room) s m #[(.ref a), (.long q)] below meth c s₁ [] 0 0 := Stand.of_body Bd
  have e0 : s₁.heap = h0 := by rw [← hh, Bd.state]; rfl
  have N0 := Fr.nil n0
  have pre0 : ∀ tt_, Steps p.tables e below (s₁.setTop (mkF m 0 #[.val (.ref a), .val (.long q), .second, .unset, .unset] [])) tt_ → Steps p.tables e below (s₁.setTop (entryFrame m #[(.ref a), (.long q)] 5)) tt_ := fun tt_ kk_ => castTop (own_ef_rmAt m a q) kk_
  obtain ⟨T1, X1, e1, st1⟩ := getS2 X0 hx hZ hown (host := "") (Or.inl (hw _ (List.mem_of_getElem? (i := 12) rfl))) Via.refl e0 S_PAGE_SHIFT (g := (mkF m 1 #[.val (.ref a), .val (.long q), .second, .unset, .unset] [(.long q)])) rfl (hb hby own_d_prog_35_method_5_code_1)
  have pre2 : ∀ tt_, Steps p.tables e below (T1.setTop (mkF m 6 #[.val (.ref a), .val (.long q), .second, .unset, .unset] [(.int (((q.toUInt64 >>> ((15 : Int32) &&& 0x3f).toInt64.toUInt64).toInt64).toInt32))])) tt_ → Steps p.tables e below (s₁.setTop (entryFrame m #[(.ref a), (.long q)] 5)) tt_ := fun tt_ kk_ => pre0 tt_ (by
    show Steps p.tables e below (s₁.setTop (mkF m 0 #[.val (.ref a), .val (.long q), .second, .unset, .unset] [])) _
    refine XS.lloadN X0.here hx rfl (hb hby own_d_prog_35_method_5_code_0) rfl ?_
    refine st1 _ ?_
    refine XS.lushr X1.here hx rfl (hb hby own_d_prog_35_method_5_code_4) rfl ?_
    refine XS.l2i X1.here hx rfl (hb hby own_d_prog_35_method_5_code_5) rfl ?_
    exact kk_)
  rw [hpg] at pre2
  obtain ⟨T3, X3, e3, st3⟩ := getF X1 hx hZ hown (host := "") (Or.inl (hw _ (List.mem_of_getElem? (i := 20) rfl))) Via.refl e1 F (g := (mkF m 41 #[.val (.ref a), .val (.long q), .second, .val (.int pg), .val (.int (0 : Int32))] [(.ref a)])) rfl rfl (hb hby own_d_prog_35_method_5_code_41)
  obtain ⟨cl4, Ar4, q4, S4, M4, H4, G4⟩ := id A
  have hin4 : ¬ (pg < 0 ∨ cl4.slots.size ≤ (pg).toNatClampNeg) := inb_of S4 hi
  have hat4 : cl4.slots[(pg).toNatClampNeg]? = some (.ref r) := Has.at H4 hin4 hv
  have pre5 : ∀ tt_, Steps p.tables e below (T3.setTop (mkF m 46 #[.val (.ref a), .val (.long q), .second, .val (.int pg), .val (.int (0 : Int32))] [(.ref r)])) tt_ → Steps p.tables e below (s₁.setTop (entryFrame m #[(.ref a), (.long q)] 5)) tt_ := fun tt_ kk_ => pre2 tt_ (by
    show Steps p.tables e below (T1.setTop (mkF m 6 #[.val (.ref a), .val (.long q), .second, .unset, .unset] [(.int pg)])) _
    refine XS.istoreN X1.here hx rfl (hb hby own_d_prog_35_method_5_code_6) rfl (l' := #[.val (.ref a), .val (.long q), .second, .val (.int pg), .unset]) rfl ?_
    refine XS.lloadN X1.here hx rfl (hb hby own_d_prog_35_method_5_code_7) rfl ?_
    show Steps p.tables e below (T1.setTop (mkF m 8 #[.val (.ref a), .val (.long q), .second, .val (.int pg), .unset] [(.long q)])) _
    refine XS.l2i X1.here hx rfl (hb hby own_d_prog_35_method_5_code_8) rfl ?_
    refine XS.sipush X1.here hx rfl (hb hby own_d_prog_35_method_5_code_9) ?_
    refine XS.iand X1.here hx rfl (hb hby own_d_prog_35_method_5_code_12) rfl ?_
    refine XS.sipush X1.here hx rfl (hb hby own_d_prog_35_method_5_code_13) ?_
    refine XS.icmpYes X1.here hx rfl (pc0 := 16) (pc' := 23) rfl (hb hby own_d_prog_35_method_5_code_16) rfl (flt (hlo : ¬ (((q.toInt32) &&& (32767 : Int32)) < (32764 : Int32)))).2.1 (by decide) (by decide) ?_
    refine XS.iconst X1.here hx rfl (hb hby own_d_prog_35_method_5_code_23) ?_
    show Steps p.tables e below (T1.setTop (mkF m 24 #[.val (.ref a), .val (.long q), .second, .val (.int pg), .unset] [(.int (0 : Int32))])) _
    refine XS.istore X1.here hx rfl (hb hby own_d_prog_35_method_5_code_24) rfl (l' := #[.val (.ref a), .val (.long q), .second, .val (.int pg), .val (.int (0 : Int32))]) rfl ?_
    refine XS.iload X1.here hx rfl (hb hby own_d_prog_35_method_5_code_26) rfl ?_
    refine XS.ifYes X1.here hx rfl (pc0 := 28) (pc' := 40) rfl (hb hby own_d_prog_35_method_5_code_28) rfl ((if0 _ _).trans (teq ((by decide) : (0 : Int32) = (0 : Int32))).1) (by decide) (by decide) ?_
    refine XS.aloadN X1.here hx rfl (hb hby own_d_prog_35_method_5_code_40) rfl rfl ?_
    refine st3 _ ?_
    refine XS.iloadN X3.here hx rfl (hb hby own_d_prog_35_method_5_code_44) rfl ?_
    refine X3.aaload hx (j := pg) (v := (.ref r)) (by rw [e3]; exact Ar4.1) (State.isArrayOf_alike hZ.alike Ar4.2.1) rfl Ar4.2.2 hin4 hat4 (g := (mkF m 45 #[.val (.ref a), .val (.long q), .second, .val (.int pg), .val (.int (0 : Int32))] [(.int pg), (.ref hd)])) rfl rfl (hb hby own_d_prog_35_method_5_code_45) _ ?_
    exact kk_)
  obtain ⟨fs, hr, hrun, hended, hW, hsame⟩ := X3.leave (v := some (.ref r)) (fun h => by rw [Bd.returns] at h; cases h)
  refine ⟨_, _, pre5 _ ?_, hrun, hended, _, _, rfl, ?_, ⟨_, rfl⟩, hW, hsame.mono (by decide) (by decide)⟩
  · show Steps p.tables e below (T3.setTop (mkF m 46 #[.val (.ref a), .val (.long q), .second, .val (.int pg), .val (.int (0 : Int32))] [(.ref r)])) _
    exact retOut X3 hx (t := (.array .long)) (i := .areturn) Bd.returns rfl (Or.inr (Or.inr (Or.inr (Or.inr ⟨rfl, rfl, rfl⟩)))) (hb hby own_d_prog_35_method_5_code_46) hr
  · show QP (.ref r) h0 n0 _ T3.heap _
    rw [e3]
    exact ⟨rfl, N0, rfl⟩
theorem own_ef_rm0 (m : MethodId) (y0 : Int64) (y1 : Int32) (y2 : Int64) (y3 : Int32) : entryFrame m #[(.long y0), (.int y1), (.long y2), (.int y3)] maxLocals = mkF m 0 #[.val (.long y0), .second, .val (.int y1), .val (.long y2), .second, .val (.int y3), .unset, .unset, .unset, .unset, .unset, .unset, .unset, .unset, .unset, .unset, .unset, .unset, .unset, .unset, .unset, .unset, .unset, .unset] [] := by first | (simp [entryFrame, mkF, argsToLocals, Value.category, maxLocals]; done) | rfl
set_option maxRecDepth 65536 in
set_option maxHeartbeats 40000000 in
theorem rm0 (l : Launch) (Z : State) (a0 : Array Value) (hw : ∀ d ∈ tables_1, d.before a0 Z = true) (ws : List Jvm.Cond) (p1 : Int64) (p2 : Int32) (p3 : Int64) (p4 : Int32) (h0 : Heap) (n0 : Nat) (Z0 : n0 ≤ h0.size) (S_PAGE_SHIFT : Sta Z h0 "com/example/elderflower/elderflower/PagedWords" "PAGE_SHIFT" "I" (.int (15 : Int32))) :
    MetFree l x (head1 (Jvm.Cond.code x code maxLocals ret :: ws) room_1) (fun ar_ U => ar_ = #[(.long p1), (.int p2), (.long p3), (.int p4)] ∧ Z.Warmed39 U.vm ∧ U.heap = h0) (fun _ _ _ _ _ => True) (fun _ U o U' => ∃ v L, o = .returned v ∧ QL n0 v U'.heap L ∧ FrameEnd U o U' L 12 131092) := by
  refine MetFree.of_bodySF (plainFor_of_name own_pn1) hisR ?_
  intro p e s m args below meth c s₁ Bd hml0 hP hK
  obtain ⟨rfl, hZ, hh⟩ := hP
  have hx := Bd.exec
  have hby := Bd.bytes
  have hml : c.maxLocals = 24 := hml0
  have hown : s.vm.findClass "com/example/elderflower/elderflower/PagedWordsArrayOfPinLaw" = some m.cls := findClass_of_methodNamed Bd.named
  have hnm := (name_of_methodNamed Bd.named Bd.method).1
  have X0 : Stand p l e room_1 s m #[(.long p1), (.int p2), (.long p3), (.int p4)] below meth c s₁ [] 0 0 := Stand.of_body Bd
  have e0 : s₁.heap = h0 := by rw [← hh, Bd.state]; rfl
  have N0 := Fr.nil n0
  have pre0 : ∀ tt_, Steps p.tables e below (s₁.setTop (mkF m 0 #[.val (.long p1), .second, .val (.int p2), .val (.long p3), .second, .val (.int p4), .unset, .unset, .unset, .unset, .unset, .unset, .unset, .unset, .unset, .unset, .unset, .unset, .unset, .unset, .unset, .unset, .unset, .unset] [])) tt_ → Steps p.tables e below (s₁.setTop (entryFrame m #[(.long p1), (.int p2), (.long p3), (.int p4)] maxLocals)) tt_ := fun tt_ kk_ => castTop (own_ef_rm0 m p1 p2 p3 p4) kk_
  have pre1 : ∀ tt_, Steps p.tables e below (s₁.setTop (mkF m 4 #[.val (.long p1), .second, .val (.int p2), .val (.long p3), .second, .val (.int p4), .unset, .unset, .unset, .unset, .unset, .unset, .unset, .unset, .unset, .unset, .unset, .unset, .unset, .unset, .unset, .unset, .unset, .unset] [(.int (p4 &&& (1 : Int32)))])) tt_ → Steps p.tables e below (s₁.setTop (entryFrame m #[(.long p1), (.int p2), (.long p3), (.int p4)] maxLocals)) tt_ := fun tt_ kk_ => pre0 tt_ (by
    show Steps p.tables e below (s₁.setTop (mkF m 0 #[.val (.long p1), .second, .val (.int p2), .val (.long p3), .second, .val (.int p4), .unset, .unset, .unset, .unset, .unset, .unset, .unset, .unset, .unset, .unset, .unset, .unset, .unset, .unset, .unset, .unset, .unset, .unset] [])) _
    refine XS.iload X0.here hx rfl (hb hby at_0) rfl ?_
    refine XS.iconst X0.here hx rfl (hb hby at_2) ?_
    refine XS.iand X0.here hx rfl (hb hby at_3) rfl ?_
    exact kk_)
  obtain ⟨sz, hsz, pre4⟩ : ∃ (sz : Int64), (own_SZ sz) ∧ ∀ tt_, Steps p.tables e below (s₁.setTop (mkF m 47 #[.val (.long p1), .second, .val (.int p2), .val (.long p3), .second, .val (.int p4), .val (.long sz), .second, .unset, .unset, .unset, .unset, .unset, .unset, .unset, .unset, .unset, .unset, .unset, .unset, .unset, .unset, .unset, .unset] [])) tt_ → Steps p.tables e below (s₁.setTop (entryFrame m #[(.long p1), (.int p2), (.long p3), (.int p4)] maxLocals)) tt_ := by
    by_cases hs : (p4 &&& (1 : Int32)) = (0 : Int32)
    · have pre2 : ∀ tt_, Steps p.tables e below (s₁.setTop (mkF m 47 #[.val (.long p1), .second, .val (.int p2), .val (.long p3), .second, .val (.int p4), .val (.long ((1 : Int64) + ((p1 &&& (9223372036854775807 : Int64)) % (98304 : Int64)))), .second, .unset, .unset, .unset, .unset, .unset, .unset, .unset, .unset, .unset, .unset, .unset, .unset, .unset, .unset, .unset, .unset] [])) tt_ → Steps p.tables e below (s₁.setTop (entryFrame m #[(.long p1), (.int p2), (.long p3), (.int p4)] maxLocals)) tt_ := fun tt_ kk_ => pre1 tt_ (by
        show Steps p.tables e below (s₁.setTop (mkF m 4 #[.val (.long p1), .second, .val (.int p2), .val (.long p3), .second, .val (.int p4), .unset, .unset, .unset, .unset, .unset, .unset, .unset, .unset, .unset, .unset, .unset, .unset, .unset, .unset, .unset, .unset, .unset, .unset] [(.int (p4 &&& (1 : Int32)))])) _
        refine XS.ifYes X0.here hx rfl (pc0 := 4) (pc' := 34) rfl (hb hby at_4) rfl ((if0 _ _).trans (teq (hs : (p4 &&& (1 : Int32)) = (0 : Int32))).1) (by decide) (by decide) ?_
        refine XS.lconst X0.here hx rfl (hb hby at_34) ?_
        show Steps p.tables e below (s₁.setTop (mkF m 35 #[.val (.long p1), .second, .val (.int p2), .val (.long p3), .second, .val (.int p4), .unset, .unset, .unset, .unset, .unset, .unset, .unset, .unset, .unset, .unset, .unset, .unset, .unset, .unset, .unset, .unset, .unset, .unset] [(.long (1 : Int64))])) _
        refine XS.lloadN X0.here hx rfl (hb hby at_35) rfl ?_
        refine X0.ldc2Long hx hown (mvT hZ (hw _ (List.mem_of_getElem? (i := 0) rfl))) (g := (mkF m 36 #[.val (.long p1), .second, .val (.int p2), .val (.long p3), .second, .val (.int p4), .unset, .unset, .unset, .unset, .unset, .unset, .unset, .unset, .unset, .unset, .unset, .unset, .unset, .unset, .unset, .unset, .unset, .unset] [(.long p1), (.long (1 : Int64))])) rfl (hb hby at_36) _ ?_
        refine XS.land X0.here hx rfl (hb hby at_39) rfl ?_
        refine X0.ldc2Long hx hown (mvT hZ (hw _ (List.mem_of_getElem? (i := 1) rfl))) (g := (mkF m 40 #[.val (.long p1), .second, .val (.int p2), .val (.long p3), .second, .val (.int p4), .unset, .unset, .unset, .unset, .unset, .unset, .unset, .unset, .unset, .unset, .unset, .unset, .unset, .unset, .unset, .unset, .unset, .unset] [(.long (p1 &&& (9223372036854775807 : Int64))), (.long (1 : Int64))])) rfl (hb hby at_40) _ ?_
        refine own_lremM X0 hx rfl (hb hby at_43) rfl (by decide) ?_
        refine XS.ladd X0.here hx rfl (hb hby at_44) rfl ?_
        show Steps p.tables e below (s₁.setTop (mkF m 45 #[.val (.long p1), .second, .val (.int p2), .val (.long p3), .second, .val (.int p4), .unset, .unset, .unset, .unset, .unset, .unset, .unset, .unset, .unset, .unset, .unset, .unset, .unset, .unset, .unset, .unset, .unset, .unset] [(.long ((1 : Int64) + ((p1 &&& (9223372036854775807 : Int64)) % (98304 : Int64))))])) _
        refine XS.lstore X0.here hx rfl (hb hby at_45) rfl (l' := #[.val (.long p1), .second, .val (.int p2), .val (.long p3), .second, .val (.int p4), .val (.long ((1 : Int64) + ((p1 &&& (9223372036854775807 : Int64)) % (98304 : Int64)))), .second, .unset, .unset, .unset, .unset, .unset, .unset, .unset, .unset, .unset, .unset, .unset, .unset, .unset, .unset, .unset, .unset]) rfl ?_
        exact kk_)
      exact ⟨((1 : Int64) + ((p1 &&& (9223372036854775807 : Int64)) % (98304 : Int64))), own_sz2 p1, pre2⟩
    · have pre3 : ∀ tt_, Steps p.tables e below (s₁.setTop (mkF m 47 #[.val (.long p1), .second, .val (.int p2), .val (.long p3), .second, .val (.int p4), .val (.long (((((((p2.toUInt32 >>> ((1 : Int32) &&& 31).toUInt32).toInt32) % (3 : Int32)).toInt64) * (32768 : Int64)) + (32756 : Int64)) + ((((p2.toUInt32 >>> ((3 : Int32) &&& 31).toUInt32).toInt32) &&& (15 : Int32)).toInt64))), .second, .unset, .unset, .unset, .unset, .unset, .unset, .unset, .unset, .unset, .unset, .unset, .unset, .unset, .unset, .unset, .unset] [])) tt_ → Steps p.tables e below (s₁.setTop (entryFrame m #[(.long p1), (.int p2), (.long p3), (.int p4)] maxLocals)) tt_ := fun tt_ kk_ => pre1 tt_ (by
        show Steps p.tables e below (s₁.setTop (mkF m 4 #[.val (.long p1), .second, .val (.int p2), .val (.long p3), .second, .val (.int p4), .unset, .unset, .unset, .unset, .unset, .unset, .unset, .unset, .unset, .unset, .unset, .unset, .unset, .unset, .unset, .unset, .unset, .unset] [(.int (p4 &&& (1 : Int32)))])) _
        refine XS.ifNo X0.here hx rfl (hb hby at_4) rfl ((if0 _ _).trans (feq (hs : ¬ ((p4 &&& (1 : Int32)) = (0 : Int32)))).1) ?_
        refine XS.iloadN X0.here hx rfl (hb hby at_7) rfl ?_
        refine XS.iconst X0.here hx rfl (hb hby at_8) ?_
        refine XS.iushr X0.here hx rfl (hb hby at_9) rfl ?_
        refine XS.iconst X0.here hx rfl (hb hby at_10) ?_
        show Steps p.tables e below (s₁.setTop (mkF m 11 #[.val (.long p1), .second, .val (.int p2), .val (.long p3), .second, .val (.int p4), .unset, .unset, .unset, .unset, .unset, .unset, .unset, .unset, .unset, .unset, .unset, .unset, .unset, .unset, .unset, .unset, .unset, .unset] [(.int (3 : Int32)), (.int ((p2.toUInt32 >>> ((1 : Int32) &&& 31).toUInt32).toInt32))])) _
        refine iremM X0 hx rfl (hb hby at_11) rfl (by decide) ?_
        refine XS.i2l X0.here hx rfl (hb hby at_12) rfl ?_
        refine X0.ldc2Long hx hown (mvT hZ (hw _ (List.mem_of_getElem? (i := 43) rfl))) (g := (mkF m 13 #[.val (.long p1), .second, .val (.int p2), .val (.long p3), .second, .val (.int p4), .unset, .unset, .unset, .unset, .unset, .unset, .unset, .unset, .unset, .unset, .unset, .unset, .unset, .unset, .unset, .unset, .unset, .unset] [(.long ((((p2.toUInt32 >>> ((1 : Int32) &&& 31).toUInt32).toInt32) % (3 : Int32)).toInt64))])) rfl (hb hby at_13) _ ?_
        refine XS.lmul X0.here hx rfl (hb hby at_16) rfl ?_
        refine X0.ldc2Long hx hown (mvT hZ (hw _ (List.mem_of_getElem? (i := 49) rfl))) (g := (mkF m 17 #[.val (.long p1), .second, .val (.int p2), .val (.long p3), .second, .val (.int p4), .unset, .unset, .unset, .unset, .unset, .unset, .unset, .unset, .unset, .unset, .unset, .unset, .unset, .unset, .unset, .unset, .unset, .unset] [(.long (((((p2.toUInt32 >>> ((1 : Int32) &&& 31).toUInt32).toInt32) % (3 : Int32)).toInt64) * (32768 : Int64)))])) rfl (hb hby at_17) _ ?_
        refine XS.ladd X0.here hx rfl (hb hby at_20) rfl ?_
        show Steps p.tables e below (s₁.setTop (mkF m 21 #[.val (.long p1), .second, .val (.int p2), .val (.long p3), .second, .val (.int p4), .unset, .unset, .unset, .unset, .unset, .unset, .unset, .unset, .unset, .unset, .unset, .unset, .unset, .unset, .unset, .unset, .unset, .unset] [(.long ((((((p2.toUInt32 >>> ((1 : Int32) &&& 31).toUInt32).toInt32) % (3 : Int32)).toInt64) * (32768 : Int64)) + (32756 : Int64)))])) _
        refine XS.iloadN X0.here hx rfl (hb hby at_21) rfl ?_
        refine XS.iconst X0.here hx rfl (hb hby at_22) ?_
        refine XS.iushr X0.here hx rfl (hb hby at_23) rfl ?_
        refine XS.bipush X0.here hx rfl (hb hby at_24) ?_
        refine XS.iand X0.here hx rfl (hb hby at_26) rfl ?_
        refine XS.i2l X0.here hx rfl (hb hby at_27) rfl ?_
        show Steps p.tables e below (s₁.setTop (mkF m 28 #[.val (.long p1), .second, .val (.int p2), .val (.long p3), .second, .val (.int p4), .unset, .unset, .unset, .unset, .unset, .unset, .unset, .unset, .unset, .unset, .unset, .unset, .unset, .unset, .unset, .unset, .unset, .unset] [(.long ((((p2.toUInt32 >>> ((3 : Int32) &&& 31).toUInt32).toInt32) &&& (15 : Int32)).toInt64)), (.long ((((((p2.toUInt32 >>> ((1 : Int32) &&& 31).toUInt32).toInt32) % (3 : Int32)).toInt64) * (32768 : Int64)) + (32756 : Int64)))])) _
        refine XS.ladd X0.here hx rfl (hb hby at_28) rfl ?_
        refine XS.lstore X0.here hx rfl (hb hby at_29) rfl (l' := #[.val (.long p1), .second, .val (.int p2), .val (.long p3), .second, .val (.int p4), .val (.long (((((((p2.toUInt32 >>> ((1 : Int32) &&& 31).toUInt32).toInt32) % (3 : Int32)).toInt64) * (32768 : Int64)) + (32756 : Int64)) + ((((p2.toUInt32 >>> ((3 : Int32) &&& 31).toUInt32).toInt32) &&& (15 : Int32)).toInt64))), .second, .unset, .unset, .unset, .unset, .unset, .unset, .unset, .unset, .unset, .unset, .unset, .unset, .unset, .unset, .unset, .unset]) rfl ?_
        refine XS.goto X0.here hx rfl (pc0 := 31) (pc' := 47) rfl (hb hby at_31) (by decide) (by decide) ?_
        exact kk_)
      exact ⟨(((((((p2.toUInt32 >>> ((1 : Int32) &&& 31).toUInt32).toInt32) % (3 : Int32)).toInt64) * (32768 : Int64)) + (32756 : Int64)) + ((((p2.toUInt32 >>> ((3 : Int32) &&& 31).toUInt32).toInt32) &&& (15 : Int32)).toInt64)), own_edge _ (own_ush1 p2) _ (own_15i _), pre3⟩
  have pre5 : ∀ tt_, Steps p.tables e below (s₁.setTop (mkF m 51 #[.val (.long p1), .second, .val (.int p2), .val (.long p3), .second, .val (.int p4), .val (.long sz), .second, .unset, .unset, .unset, .unset, .unset, .unset, .unset, .unset, .unset, .unset, .unset, .unset, .unset, .unset, .unset, .unset] [(.int (p4 &&& (2 : Int32)))])) tt_ → Steps p.tables e below (s₁.setTop (entryFrame m #[(.long p1), (.int p2), (.long p3), (.int p4)] maxLocals)) tt_ := fun tt_ kk_ => pre4 tt_ (by
    show Steps p.tables e below (s₁.setTop (mkF m 47 #[.val (.long p1), .second, .val (.int p2), .val (.long p3), .second, .val (.int p4), .val (.long sz), .second, .unset, .unset, .unset, .unset, .unset, .unset, .unset, .unset, .unset, .unset, .unset, .unset, .unset, .unset, .unset, .unset] [])) _
    refine XS.iload X0.here hx rfl (hb hby at_47) rfl ?_
    refine XS.iconst X0.here hx rfl (hb hby at_49) ?_
    refine XS.iand X0.here hx rfl (hb hby at_50) rfl ?_
    exact kk_)
  obtain ⟨wo, hwo, pre11⟩ : ∃ (wo : Int64), (own_WO wo sz) ∧ ∀ tt_, Steps p.tables e below (s₁.setTop (mkF m 108 #[.val (.long p1), .second, .val (.int p2), .val (.long p3), .second, .val (.int p4), .val (.long sz), .second, .val (.long wo), .second, .unset, .unset, .unset, .unset, .unset, .unset, .unset, .unset, .unset, .unset, .unset, .unset, .unset, .unset] [])) tt_ → Steps p.tables e below (s₁.setTop (entryFrame m #[(.long p1), (.int p2), (.long p3), (.int p4)] maxLocals)) tt_ := by
    by_cases hs2 : (p4 &&& (2 : Int32)) = (0 : Int32)
    · have pre6 : ∀ tt_, Steps p.tables e below (s₁.setTop (mkF m 108 #[.val (.long p1), .second, .val (.int p2), .val (.long p3), .second, .val (.int p4), .val (.long sz), .second, .val (.long ((p3 &&& (9223372036854775807 : Int64)) % sz)), .second, .unset, .unset, .unset, .unset, .unset, .unset, .unset, .unset, .unset, .unset, .unset, .unset, .unset, .unset] [])) tt_ → Steps p.tables e below (s₁.setTop (entryFrame m #[(.long p1), (.int p2), (.long p3), (.int p4)] maxLocals)) tt_ := fun tt_ kk_ => pre5 tt_ (by
        show Steps p.tables e below (s₁.setTop (mkF m 51 #[.val (.long p1), .second, .val (.int p2), .val (.long p3), .second, .val (.int p4), .val (.long sz), .second, .unset, .unset, .unset, .unset, .unset, .unset, .unset, .unset, .unset, .unset, .unset, .unset, .unset, .unset, .unset, .unset] [(.int (p4 &&& (2 : Int32)))])) _
        refine XS.ifYes X0.here hx rfl (pc0 := 51) (pc' := 98) rfl (hb hby at_51) rfl ((if0 _ _).trans (teq (hs2 : (p4 &&& (2 : Int32)) = (0 : Int32))).1) (by decide) (by decide) ?_
        refine XS.lloadN X0.here hx rfl (hb hby at_98) rfl ?_
        refine X0.ldc2Long hx hown (mvT hZ (hw _ (List.mem_of_getElem? (i := 0) rfl))) (g := (mkF m 99 #[.val (.long p1), .second, .val (.int p2), .val (.long p3), .second, .val (.int p4), .val (.long sz), .second, .unset, .unset, .unset, .unset, .unset, .unset, .unset, .unset, .unset, .unset, .unset, .unset, .unset, .unset, .unset, .unset] [(.long p3)])) rfl (hb hby at_99) _ ?_
        refine XS.land X0.here hx rfl (hb hby at_102) rfl ?_
        refine XS.lload X0.here hx rfl (hb hby at_103) rfl ?_
        refine own_lremM X0 hx rfl (hb hby at_105) rfl (own_sznz hsz) ?_
        show Steps p.tables e below (s₁.setTop (mkF m 106 #[.val (.long p1), .second, .val (.int p2), .val (.long p3), .second, .val (.int p4), .val (.long sz), .second, .unset, .unset, .unset, .unset, .unset, .unset, .unset, .unset, .unset, .unset, .unset, .unset, .unset, .unset, .unset, .unset] [(.long ((p3 &&& (9223372036854775807 : Int64)) % sz))])) _
        refine XS.lstore X0.here hx rfl (hb hby at_106) rfl (l' := #[.val (.long p1), .second, .val (.int p2), .val (.long p3), .second, .val (.int p4), .val (.long sz), .second, .val (.long ((p3 &&& (9223372036854775807 : Int64)) % sz)), .second, .unset, .unset, .unset, .unset, .unset, .unset, .unset, .unset, .unset, .unset, .unset, .unset, .unset, .unset]) rfl ?_
        exact kk_)
      exact ⟨((p3 &&& (9223372036854775807 : Int64)) % sz), own_rem (own_max63 p3) hsz, pre6⟩
    · have hw0 := own_edge _ (own_31 ((p3.toUInt64 >>> ((4 : Int32) &&& 0x3f).toInt64.toUInt64).toInt64).toInt32) _ (own_15l p3)
      have pre7 : ∀ tt_, Steps p.tables e below (s₁.setTop (mkF m 78 #[.val (.long p1), .second, .val (.int p2), .val (.long p3), .second, .val (.int p4), .val (.long sz), .second, .unset, .unset, .unset, .unset, .unset, .unset, .unset, .unset, .unset, .unset, .unset, .unset, .unset, .unset, .unset, .unset] [(.long (((((((((p3.toUInt64 >>> ((4 : Int32) &&& 0x3f).toInt64.toUInt64).toInt64).toInt32) &&& (2147483647 : Int32)) % (3 : Int32)).toInt64) * (32768 : Int64)) + (32756 : Int64)) + (p3 &&& (15 : Int64))))])) tt_ → Steps p.tables e below (s₁.setTop (entryFrame m #[(.long p1), (.int p2), (.long p3), (.int p4)] maxLocals)) tt_ := fun tt_ kk_ => pre5 tt_ (by
        show Steps p.tables e below (s₁.setTop (mkF m 51 #[.val (.long p1), .second, .val (.int p2), .val (.long p3), .second, .val (.int p4), .val (.long sz), .second, .unset, .unset, .unset, .unset, .unset, .unset, .unset, .unset, .unset, .unset, .unset, .unset, .unset, .unset, .unset, .unset] [(.int (p4 &&& (2 : Int32)))])) _
        refine XS.ifNo X0.here hx rfl (hb hby at_51) rfl ((if0 _ _).trans (feq (hs2 : ¬ ((p4 &&& (2 : Int32)) = (0 : Int32)))).1) ?_
        refine XS.lloadN X0.here hx rfl (hb hby at_54) rfl ?_
        refine XS.iconst X0.here hx rfl (hb hby at_55) ?_
        refine XS.lushr X0.here hx rfl (hb hby at_56) rfl ?_
        refine XS.l2i X0.here hx rfl (hb hby at_57) rfl ?_
        show Steps p.tables e below (s₁.setTop (mkF m 58 #[.val (.long p1), .second, .val (.int p2), .val (.long p3), .second, .val (.int p4), .val (.long sz), .second, .unset, .unset, .unset, .unset, .unset, .unset, .unset, .unset, .unset, .unset, .unset, .unset, .unset, .unset, .unset, .unset] [(.int (((p3.toUInt64 >>> ((4 : Int32) &&& 0x3f).toInt64.toUInt64).toInt64).toInt32))])) _
        refine X0.ldcInt hx hown (mvT hZ (hw _ (List.mem_of_getElem? (i := 50) rfl))) (g := (mkF m 58 #[.val (.long p1), .second, .val (.int p2), .val (.long p3), .second, .val (.int p4), .val (.long sz), .second, .unset, .unset, .unset, .unset, .unset, .unset, .unset, .unset, .unset, .unset, .unset, .unset, .unset, .unset, .unset, .unset] [(.int (((p3.toUInt64 >>> ((4 : Int32) &&& 0x3f).toInt64.toUInt64).toInt64).toInt32))])) rfl (hb hby at_58) _ ?_
        refine XS.iand X0.here hx rfl (hb hby at_60) rfl ?_
        refine XS.iconst X0.here hx rfl (hb hby at_61) ?_
        refine iremM X0 hx rfl (hb hby at_62) rfl (by decide) ?_
        refine XS.i2l X0.here hx rfl (hb hby at_63) rfl ?_
        refine X0.ldc2Long hx hown (mvT hZ (hw _ (List.mem_of_getElem? (i := 43) rfl))) (g := (mkF m 64 #[.val (.long p1), .second, .val (.int p2), .val (.long p3), .second, .val (.int p4), .val (.long sz), .second, .unset, .unset, .unset, .unset, .unset, .unset, .unset, .unset, .unset, .unset, .unset, .unset, .unset, .unset, .unset, .unset] [(.long ((((((p3.toUInt64 >>> ((4 : Int32) &&& 0x3f).toInt64.toUInt64).toInt64).toInt32) &&& (2147483647 : Int32)) % (3 : Int32)).toInt64))])) rfl (hb hby at_64) _ ?_
        show Steps p.tables e below (s₁.setTop (mkF m 67 #[.val (.long p1), .second, .val (.int p2), .val (.long p3), .second, .val (.int p4), .val (.long sz), .second, .unset, .unset, .unset, .unset, .unset, .unset, .unset, .unset, .unset, .unset, .unset, .unset, .unset, .unset, .unset, .unset] [(.long (32768 : Int64)), (.long ((((((p3.toUInt64 >>> ((4 : Int32) &&& 0x3f).toInt64.toUInt64).toInt64).toInt32) &&& (2147483647 : Int32)) % (3 : Int32)).toInt64))])) _
        refine XS.lmul X0.here hx rfl (hb hby at_67) rfl ?_
        refine X0.ldc2Long hx hown (mvT hZ (hw _ (List.mem_of_getElem? (i := 49) rfl))) (g := (mkF m 68 #[.val (.long p1), .second, .val (.int p2), .val (.long p3), .second, .val (.int p4), .val (.long sz), .second, .unset, .unset, .unset, .unset, .unset, .unset, .unset, .unset, .unset, .unset, .unset, .unset, .unset, .unset, .unset, .unset] [(.long (((((((p3.toUInt64 >>> ((4 : Int32) &&& 0x3f).toInt64.toUInt64).toInt64).toInt32) &&& (2147483647 : Int32)) % (3 : Int32)).toInt64) * (32768 : Int64)))])) rfl (hb hby at_68) _ ?_
        refine XS.ladd X0.here hx rfl (hb hby at_71) rfl ?_
        refine XS.lloadN X0.here hx rfl (hb hby at_72) rfl ?_
        refine X0.ldc2Long hx hown (mvT hZ (hw _ (List.mem_of_getElem? (i := 51) rfl))) (g := (mkF m 73 #[.val (.long p1), .second, .val (.int p2), .val (.long p3), .second, .val (.int p4), .val (.long sz), .second, .unset, .unset, .unset, .unset, .unset, .unset, .unset, .unset, .unset, .unset, .unset, .unset, .unset, .unset, .unset, .unset] [(.long p3), (.long ((((((((p3.toUInt64 >>> ((4 : Int32) &&& 0x3f).toInt64.toUInt64).toInt64).toInt32) &&& (2147483647 : Int32)) % (3 : Int32)).toInt64) * (32768 : Int64)) + (32756 : Int64)))])) rfl (hb hby at_73) _ ?_
        refine XS.land X0.here hx rfl (hb hby at_76) rfl ?_
        show Steps p.tables e below (s₁.setTop (mkF m 77 #[.val (.long p1), .second, .val (.int p2), .val (.long p3), .second, .val (.int p4), .val (.long sz), .second, .unset, .unset, .unset, .unset, .unset, .unset, .unset, .unset, .unset, .unset, .unset, .unset, .unset, .unset, .unset, .unset] [(.long (p3 &&& (15 : Int64))), (.long ((((((((p3.toUInt64 >>> ((4 : Int32) &&& 0x3f).toInt64.toUInt64).toInt64).toInt32) &&& (2147483647 : Int32)) % (3 : Int32)).toInt64) * (32768 : Int64)) + (32756 : Int64)))])) _
        refine XS.ladd X0.here hx rfl (hb hby at_77) rfl ?_
        exact kk_)
      obtain ⟨w0, h_w0⟩ : ∃ z : Int64, z = (((((((((p3.toUInt64 >>> ((4 : Int32) &&& 0x3f).toInt64.toUInt64).toInt64).toInt32) &&& (2147483647 : Int32)) % (3 : Int32)).toInt64) * (32768 : Int64)) + (32756 : Int64)) + (p3 &&& (15 : Int64))) := ⟨_, rfl⟩
      rw [← h_w0] at pre7
      rw [← h_w0] at hw0
      have pre8 : ∀ tt_, Steps p.tables e below (s₁.setTop (mkF m 85 #[.val (.long p1), .second, .val (.int p2), .val (.long p3), .second, .val (.int p4), .val (.long sz), .second, .val (.long w0), .second, .unset, .unset, .unset, .unset, .unset, .unset, .unset, .unset, .unset, .unset, .unset, .unset, .unset, .unset] [(.int (lcmpW w0 sz))])) tt_ → Steps p.tables e below (s₁.setTop (entryFrame m #[(.long p1), (.int p2), (.long p3), (.int p4)] maxLocals)) tt_ := fun tt_ kk_ => pre7 tt_ (by
        show Steps p.tables e below (s₁.setTop (mkF m 78 #[.val (.long p1), .second, .val (.int p2), .val (.long p3), .second, .val (.int p4), .val (.long sz), .second, .unset, .unset, .unset, .unset, .unset, .unset, .unset, .unset, .unset, .unset, .unset, .unset, .unset, .unset, .unset, .unset] [(.long w0)])) _
        refine XS.lstore X0.here hx rfl (hb hby at_78) rfl (l' := #[.val (.long p1), .second, .val (.int p2), .val (.long p3), .second, .val (.int p4), .val (.long sz), .second, .val (.long w0), .second, .unset, .unset, .unset, .unset, .unset, .unset, .unset, .unset, .unset, .unset, .unset, .unset, .unset, .unset]) rfl ?_
        refine XS.lload X0.here hx rfl (hb hby at_80) rfl ?_
        refine XS.lload X0.here hx rfl (hb hby at_82) rfl ?_
        refine XS.lcmp X0.here hx rfl (hb hby at_84) rfl ?_
        exact kk_)
      by_cases hlt : w0 < sz
      · have pre9 : ∀ tt_, Steps p.tables e below (s₁.setTop (mkF m 108 #[.val (.long p1), .second, .val (.int p2), .val (.long p3), .second, .val (.int p4), .val (.long sz), .second, .val (.long w0), .second, .unset, .unset, .unset, .unset, .unset, .unset, .unset, .unset, .unset, .unset, .unset, .unset, .unset, .unset] [])) tt_ → Steps p.tables e below (s₁.setTop (entryFrame m #[(.long p1), (.int p2), (.long p3), (.int p4)] maxLocals)) tt_ := fun tt_ kk_ => pre8 tt_ (by
          show Steps p.tables e below (s₁.setTop (mkF m 85 #[.val (.long p1), .second, .val (.int p2), .val (.long p3), .second, .val (.int p4), .val (.long sz), .second, .val (.long w0), .second, .unset, .unset, .unset, .unset, .unset, .unset, .unset, .unset, .unset, .unset, .unset, .unset, .unset, .unset] [(.int (lcmpW w0 sz))])) _
          refine XS.ifYes X0.here hx rfl (pc0 := 85) (pc' := 108) rfl (hb hby at_85) rfl ((if0 _ _).trans (tlt ((own_lclt hlt) : (lcmpW w0 sz) < (0 : Int32))).1) (by decide) (by decide) ?_
          exact kk_)
        exact ⟨w0, ⟨by have := hw0.1; omega, Int64.lt_iff_toInt_lt.mp hlt⟩, pre9⟩
      · have pre10 : ∀ tt_, Steps p.tables e below (s₁.setTop (mkF m 108 #[.val (.long p1), .second, .val (.int p2), .val (.long p3), .second, .val (.int p4), .val (.long sz), .second, .val (.long (w0 % sz)), .second, .unset, .unset, .unset, .unset, .unset, .unset, .unset, .unset, .unset, .unset, .unset, .unset, .unset, .unset] [])) tt_ → Steps p.tables e below (s₁.setTop (entryFrame m #[(.long p1), (.int p2), (.long p3), (.int p4)] maxLocals)) tt_ := fun tt_ kk_ => pre8 tt_ (by
          show Steps p.tables e below (s₁.setTop (mkF m 85 #[.val (.long p1), .second, .val (.int p2), .val (.long p3), .second, .val (.int p4), .val (.long sz), .second, .val (.long w0), .second, .unset, .unset, .unset, .unset, .unset, .unset, .unset, .unset, .unset, .unset, .unset, .unset, .unset, .unset] [(.int (lcmpW w0 sz))])) _
          refine XS.ifNo X0.here hx rfl (hb hby at_85) rfl ((if0 _ _).trans (flt ((own_lcge hlt) : ¬ ((lcmpW w0 sz) < (0 : Int32)))).1) ?_
          refine XS.lload X0.here hx rfl (hb hby at_88) rfl ?_
          refine XS.lload X0.here hx rfl (hb hby at_90) rfl ?_
          refine own_lremM X0 hx rfl (hb hby at_92) rfl (own_sznz hsz) ?_
          refine XS.lstore X0.here hx rfl (hb hby at_93) rfl (l' := #[.val (.long p1), .second, .val (.int p2), .val (.long p3), .second, .val (.int p4), .val (.long sz), .second, .val (.long (w0 % sz)), .second, .unset, .unset, .unset, .unset, .unset, .unset, .unset, .unset, .unset, .unset, .unset, .unset, .unset, .unset]) rfl ?_
          refine XS.goto X0.here hx rfl (pc0 := 95) (pc' := 108) rfl (hb hby at_95) (by decide) (by decide) ?_
          exact kk_)
        exact ⟨(w0 % sz), own_rem (by have := hw0.1; omega) hsz, pre10⟩
  obtain ⟨pn, lw, hp4, hpgs, hlw, hlb, hsq⟩ := own_pages hsz
  obtain ⟨w1, w2⟩ := hwo
  have hsz2 := hsz.2
  have hl1 := hlb.1
  have hl2 := hlb.2
  obtain ⟨pg, hpg⟩ : ∃ n : Nat, wo.toInt / 32768 = (n : Int) := ⟨(wo.toInt / 32768).toNat, by omega⟩
  have hpn : pg < pn := by omega
  have hpn4 : pn ≤ 4 := by omega
  obtain ⟨T12, h12, X12, e12, E12, A12, D12, -, st12⟩ := newO X0 hx hZ hown (hw _ (List.mem_of_getElem? (i := 2) rfl)) (hw _ (List.mem_of_getElem? (i := 3) rfl)) (hw _ (List.mem_of_getElem? (i := 4) rfl)) e0 (g := (mkF m 108 #[.val (.long p1), .second, .val (.int p2), .val (.long p3), .second, .val (.int p4), .val (.long sz), .second, .val (.long wo), .second, .unset, .unset, .unset, .unset, .unset, .unset, .unset, .unset, .unset, .unset, .unset, .unset, .unset, .unset] [])) rfl (hb hby at_108) (by decide) (by decide)
  obtain ⟨b12, g12⟩ : ∃ z, z = h0.size := ⟨_, rfl⟩
  rw [← g12] at A12 D12 st12
  have g_b12 : n0 ≤ b12 := Nat.le_trans Z0 (Nat.le_of_eq g12.symm)
  have S12_0 := S_PAGE_SHIFT.ext E12
  have z12 : n0 ≤ h12.size := Nat.le_trans Z0 E12.1
  have F_size_b12 : Fld Z h12 b12 "com/example/elderflower/elderflower/PagedWords" "size" "J" (.long (0 : Int64)) := D12 (Or.inr (hw _ (List.mem_of_getElem? (i := 15) rfl))) (ty := .long) (by decide)
  have F_heads_b12 : Fld Z h12 b12 "com/example/elderflower/elderflower/PagedWords" "heads" "[[J" .null := D12 (Or.inr (hw _ (List.mem_of_getElem? (i := 19) rfl))) (ty := (.array (.array .long))) (by decide)
  have F_tails_b12 : Fld Z h12 b12 "com/example/elderflower/elderflower/PagedWords" "tails" "[[J" .null := D12 (Or.inr (hw _ (List.mem_of_getElem? (i := 21) rfl))) (ty := (.array (.array .long))) (by decide)
  have F_arrays_b12 : Fld Z h12 b12 "com/example/elderflower/elderflower/PagedWords" "arrays" "[[J" .null := D12 (Or.inr (hw _ (List.mem_of_getElem? (i := 23) rfl))) (ty := (.array (.array .long))) (by decide)
  obtain ⟨_, _, ⟨T13, L13, k13, n13⟩, -, X13, ⟨Lc13, hQ13, l13, y13, z13⟩, st13⟩ := X12.specialBack hx (y := (⟨"com/example/elderflower/elderflower/PagedWords", "<init>", "(J)V"⟩ : MethodName)) rfl hown (mvT hZ (hw _ (List.mem_of_getElem? (i := 5) rfl))) (mvT hZ (hw _ (List.mem_of_getElem? (i := 6) rfl))) (mvT hZ (hw _ (List.mem_of_getElem? (i := 7) rfl))) (by decide) (backOf (W := 1) (rmI l Z a0 hw [] b12 sz pn lw h12 n0 z12 A12 g_b12 F_size_b12 F_heads_b12 F_tails_b12 F_arrays_b12 S12_0 hp4 hpgs hlw hlb) hZ (hw _ (List.mem_of_getElem? (i := 7) rfl)) (hw _ (List.mem_of_getElem? (i := 4) rfl)) (by decide) (by decide)) (g := (mkF m 114 #[.val (.long p1), .second, .val (.int p2), .val (.long p3), .second, .val (.int p4), .val (.long sz), .second, .val (.long wo), .second, .unset, .unset, .unset, .unset, .unset, .unset, .unset, .unset, .unset, .unset, .unset, .unset, .unset, .unset] [(.long sz), (.ref b12), (.ref b12)])) rfl (by rw [hml]; rfl) (Steps.refl _) (a := b12) (argsL := [(.long sz)]) (rest := [(.ref b12)]) (lenOf own_pd1 rfl) rfl (by show 2 * 0 + _ ≤ _; exact Nat.le_of_eq rfl) (hb hby at_114) (fun _ _ => ⟨rfl, e12, (by decide : 1 + 11 ≤ _), (by decide : 4 + 131088 ≤ _)⟩)
  dsimp only [Pt.U, Pt.locs, Pt.cells, Pt.slots] at X13 l13 y13 z13 st13 hQ13
  replace l13 := l13.symm; subst l13 y13 z13
  obtain ⟨h13, e13⟩ : ∃ z, T13.heap = z := ⟨_, rfl⟩
  rw [e13] at hQ13
  obtain ⟨rfl, N13q, Kc13, hq13⟩ := hQ13
  have N13 := Fr.app N0 N13q
  have X13_146 := A12.keep Kc13
  have S13_147 := own_sta_keep S12_0 Kc13 (allS (own_cellE A12) all0)
  have z13 : n0 ≤ h13.size := Nat.le_trans z12 Kc13.1
  obtain ⟨hd, kh, vh, tl, kt, vt, ar, ka, va, nn, fh, ft, fa, Ah, At, Aa, hnn, H1, H2⟩ := hq13
  have pre14 : ∀ tt_, Steps p.tables e below (T13.setTop (mkF m 119 #[.val (.long p1), .second, .val (.int p2), .val (.long p3), .second, .val (.int p4), .val (.long sz), .second, .val (.long wo), .second, .val (.ref b12), .unset, .unset, .unset, .unset, .unset, .unset, .unset, .unset, .unset, .unset, .unset, .unset, .unset] [])) tt_ → Steps p.tables e below (s₁.setTop (entryFrame m #[(.long p1), (.int p2), (.long p3), (.int p4)] maxLocals)) tt_ := fun tt_ kk_ => pre11 tt_ (by
    show Steps p.tables e below (s₁.setTop (mkF m 108 #[.val (.long p1), .second, .val (.int p2), .val (.long p3), .second, .val (.int p4), .val (.long sz), .second, .val (.long wo), .second, .unset, .unset, .unset, .unset, .unset, .unset, .unset, .unset, .unset, .unset, .unset, .unset, .unset, .unset] [])) _
    refine st12 _ ?_
    show Steps p.tables e below (T12.setTop (mkF m 111 #[.val (.long p1), .second, .val (.int p2), .val (.long p3), .second, .val (.int p4), .val (.long sz), .second, .val (.long wo), .second, .unset, .unset, .unset, .unset, .unset, .unset, .unset, .unset, .unset, .unset, .unset, .unset, .unset, .unset] [(.ref b12)])) _
    refine XS.dup X12.here hx rfl (hb hby at_111) rfl rfl ?_
    refine XS.lload X12.here hx rfl (hb hby at_112) rfl ?_
    show Steps p.tables e below (T12.setTop (mkF m 114 #[.val (.long p1), .second, .val (.int p2), .val (.long p3), .second, .val (.int p4), .val (.long sz), .second, .val (.long wo), .second, .unset, .unset, .unset, .unset, .unset, .unset, .unset, .unset, .unset, .unset, .unset, .unset, .unset, .unset] [(.long sz), (.ref b12), (.ref b12)])) _
    refine st13.trans ?_
    refine XS.astore X13.here hx rfl (hb hby at_117) rfl rfl (l' := #[.val (.long p1), .second, .val (.int p2), .val (.long p3), .second, .val (.int p4), .val (.long sz), .second, .val (.long wo), .second, .val (.ref b12), .unset, .unset, .unset, .unset, .unset, .unset, .unset, .unset, .unset, .unset, .unset, .unset, .unset]) rfl ?_
    exact kk_)
  have hw0 : 0 ≤ wo.toInt := w1
  by_cases hc : (wo % (32768 : Int64)) < (32764 : Int64)
  · obtain ⟨r, hr1, hr2, hL⟩ := H1 pg hpn
    obtain ⟨cq15, kq15, q15a, q15b, q15c⟩ := isOf hZ e13 X13_146
    obtain ⟨_, _, ⟨T15, L15, k15, n15⟩, -, X15, ⟨Lc15, hQ15, l15, y15, z15⟩, st15⟩ := X13.virtualBack hx (y := (⟨"com/example/elderflower/elderflower/PagedWords", "arrays", "()[[J"⟩ : MethodName)) (z := (⟨"com/example/elderflower/elderflower/PagedWords", "arrays", "()[[J"⟩ : MethodName)) hown (mvT hZ (hw _ (List.mem_of_getElem? (i := 33) rfl))) (mvT hZ (hw _ (List.mem_of_getElem? (i := 34) rfl))) (notFace_of_selects (args := #[]) (mvT hZ (hw _ (List.mem_of_getElem? (i := 36) rfl)))) (mvT hZ (hw _ (List.mem_of_getElem? (i := 36) rfl))) (mvT hZ (hw _ (List.mem_of_getElem? (i := 35) rfl))) (by decide) (backOf (W := 0) (rmR l Z a0 hw [] b12 ar h13 n0 z13 fa) hZ (hw _ (List.mem_of_getElem? (i := 37) rfl)) (hw _ (List.mem_of_getElem? (i := 4) rfl)) (by decide) (by decide)) q15a q15c (g := (mkF m 121 #[.val (.long p1), .second, .val (.int p2), .val (.long p3), .second, .val (.int p4), .val (.long sz), .second, .val (.long wo), .second, .val (.ref b12), .unset, .unset, .unset, .unset, .unset, .unset, .unset, .unset, .unset, .unset, .unset, .unset, .unset] [(.ref b12)])) rfl (by rw [hml]; rfl) (Steps.refl _) (argsL := []) (rest := []) (lenOf own_pd2 rfl) rfl (by show 2 * 0 + _ ≤ _; exact Nat.le_of_eq rfl) (hb hby at_121) (fun _ _ => ⟨rfl, e13, (by decide : 12 + 0 ≤ _), (by decide : 131092 + 0 ≤ _)⟩)
    dsimp only [Pt.U, Pt.locs, Pt.cells, Pt.slots] at X15 l15 y15 z15 st15 hQ15
    replace l15 := l15.symm; subst l15 y15 z15
    obtain ⟨rfl, N15q, e15⟩ := hQ15
    have N15 := Fr.app N13 N15q
    obtain ⟨cq16, kq16, q16a, q16b, q16c⟩ := isOf hZ e15 X13_146
    obtain ⟨_, _, ⟨T16, L16, k16, n16⟩, -, X16, ⟨Lc16, hQ16, l16, y16, z16⟩, st16⟩ := X15.virtualBack hx (y := (⟨"com/example/elderflower/elderflower/PagedWords", "arrayOf", "(J)[J"⟩ : MethodName)) (z := (⟨"com/example/elderflower/elderflower/PagedWords", "arrayOf", "(J)[J"⟩ : MethodName)) hown (mvT hZ (hw _ (List.mem_of_getElem? (i := 38) rfl))) (mvT hZ (hw _ (List.mem_of_getElem? (i := 39) rfl))) (notFace_of_selects (args := #[]) (mvT hZ (hw _ (List.mem_of_getElem? (i := 41) rfl)))) (mvT hZ (hw _ (List.mem_of_getElem? (i := 41) rfl))) (mvT hZ (hw _ (List.mem_of_getElem? (i := 40) rfl))) (by decide) (backOf (W := 0) (rmAh l Z a0 hw [] b12 wo hd r kh (Int32.ofNat pn) (Int32.ofNat pg) vh h13 n0 z13 S13_147 fh Ah (own_wpg hw0 (by omega) hpg) ((own_lowlt hw0).mpr hc) (own_inb hpn (by omega)) (by rw [own_nat (by omega)]; exact hr1)) hZ (hw _ (List.mem_of_getElem? (i := 42) rfl)) (hw _ (List.mem_of_getElem? (i := 4) rfl)) (by decide) (by decide)) q16a q16c (g := (mkF m 130 #[.val (.long p1), .second, .val (.int p2), .val (.long p3), .second, .val (.int p4), .val (.long sz), .second, .val (.long wo), .second, .val (.ref b12), .val (.ref ar), .unset, .unset, .unset, .unset, .unset, .unset, .unset, .unset, .unset, .unset, .unset, .unset] [(.long wo), (.ref b12)])) rfl (by rw [hml]; rfl) (Steps.refl _) (argsL := [(.long wo)]) (rest := []) (lenOf own_pd3 rfl) rfl (by show 2 * 0 + _ ≤ _; exact Nat.le_of_eq rfl) (hb hby at_130) (fun _ _ => ⟨rfl, e15, (by decide : 12 + 0 ≤ _), (by decide : 131092 + 0 ≤ _)⟩)
    dsimp only [Pt.U, Pt.locs, Pt.cells, Pt.slots] at X16 l16 y16 z16 st16 hQ16
    replace l16 := l16.symm; subst l16 y16 z16
    obtain ⟨rfl, N16q, e16⟩ := hQ16
    have N16 := Fr.app N15 N16q
    have pre17 : ∀ tt_, Steps p.tables e below (T16.setTop (mkF m 141 #[.val (.long p1), .second, .val (.int p2), .val (.long p3), .second, .val (.int p4), .val (.long sz), .second, .val (.long wo), .second, .val (.ref b12), .val (.ref ar), .val (.ref r), .unset, .unset, .unset, .unset, .unset, .unset, .unset, .unset, .unset, .unset, .unset] [(.long (wo / (32768 : Int64)))])) tt_ → Steps p.tables e below (s₁.setTop (entryFrame m #[(.long p1), (.int p2), (.long p3), (.int p4)] maxLocals)) tt_ := fun tt_ kk_ => pre14 tt_ (by
      show Steps p.tables e below (T13.setTop (mkF m 119 #[.val (.long p1), .second, .val (.int p2), .val (.long p3), .second, .val (.int p4), .val (.long sz), .second, .val (.long wo), .second, .val (.ref b12), .unset, .unset, .unset, .unset, .unset, .unset, .unset, .unset, .unset, .unset, .unset, .unset, .unset] [])) _
      refine XS.aload X13.here hx rfl (hb hby at_119) rfl rfl ?_
      show Steps p.tables e below (T13.setTop (mkF m 121 #[.val (.long p1), .second, .val (.int p2), .val (.long p3), .second, .val (.int p4), .val (.long sz), .second, .val (.long wo), .second, .val (.ref b12), .unset, .unset, .unset, .unset, .unset, .unset, .unset, .unset, .unset, .unset, .unset, .unset, .unset] [(.ref b12)])) _
      refine st15.trans ?_
      refine XS.astore X15.here hx rfl (hb hby at_124) rfl rfl (l' := #[.val (.long p1), .second, .val (.int p2), .val (.long p3), .second, .val (.int p4), .val (.long sz), .second, .val (.long wo), .second, .val (.ref b12), .val (.ref ar), .unset, .unset, .unset, .unset, .unset, .unset, .unset, .unset, .unset, .unset, .unset, .unset]) rfl ?_
      refine XS.aload X15.here hx rfl (hb hby at_126) rfl rfl ?_
      show Steps p.tables e below (T15.setTop (mkF m 128 #[.val (.long p1), .second, .val (.int p2), .val (.long p3), .second, .val (.int p4), .val (.long sz), .second, .val (.long wo), .second, .val (.ref b12), .val (.ref ar), .unset, .unset, .unset, .unset, .unset, .unset, .unset, .unset, .unset, .unset, .unset, .unset] [(.ref b12)])) _
      refine XS.lload X15.here hx rfl (hb hby at_128) rfl ?_
      show Steps p.tables e below (T15.setTop (mkF m 130 #[.val (.long p1), .second, .val (.int p2), .val (.long p3), .second, .val (.int p4), .val (.long sz), .second, .val (.long wo), .second, .val (.ref b12), .val (.ref ar), .unset, .unset, .unset, .unset, .unset, .unset, .unset, .unset, .unset, .unset, .unset, .unset] [(.long wo), (.ref b12)])) _
      refine st16.trans ?_
      refine XS.astore X16.here hx rfl (hb hby at_133) rfl rfl (l' := #[.val (.long p1), .second, .val (.int p2), .val (.long p3), .second, .val (.int p4), .val (.long sz), .second, .val (.long wo), .second, .val (.ref b12), .val (.ref ar), .val (.ref r), .unset, .unset, .unset, .unset, .unset, .unset, .unset, .unset, .unset, .unset, .unset]) rfl ?_
      refine XS.lload X16.here hx rfl (hb hby at_135) rfl ?_
      refine X16.ldc2Long hx hown (mvT hZ (hw _ (List.mem_of_getElem? (i := 43) rfl))) (g := (mkF m 137 #[.val (.long p1), .second, .val (.int p2), .val (.long p3), .second, .val (.int p4), .val (.long sz), .second, .val (.long wo), .second, .val (.ref b12), .val (.ref ar), .val (.ref r), .unset, .unset, .unset, .unset, .unset, .unset, .unset, .unset, .unset, .unset, .unset] [(.long wo)])) rfl (hb hby at_137) _ ?_
      refine XS.ldiv X16.here hx rfl (hb hby at_140) rfl (by decide) ?_
      exact kk_)
    obtain ⟨pa, h_pa⟩ : ∃ z : Int64, z = (wo / (32768 : Int64)) := ⟨_, rfl⟩
    rw [← h_pa] at pre17
    have hpa : pa.toInt = (pg : Int) := by rw [h_pa, (own_divm wo hw0).1]; exact hpg
    have pre18 : ∀ tt_, Steps p.tables e below (T16.setTop (mkF m 189 #[.val (.long p1), .second, .val (.int p2), .val (.long p3), .second, .val (.int p4), .val (.long sz), .second, .val (.long wo), .second, .val (.ref b12), .val (.ref ar), .val (.ref r), .val (.long pa), .second, .val (.long (wo % (32768 : Int64))), .second, .val (.int (1 : Int32)), .unset, .unset, .unset, .unset, .unset, .unset] [(.long ((2 : Int64) * pa))])) tt_ → Steps p.tables e below (s₁.setTop (entryFrame m #[(.long p1), (.int p2), (.long p3), (.int p4)] maxLocals)) tt_ := fun tt_ kk_ => pre17 tt_ (by
      show Steps p.tables e below (T16.setTop (mkF m 141 #[.val (.long p1), .second, .val (.int p2), .val (.long p3), .second, .val (.int p4), .val (.long sz), .second, .val (.long wo), .second, .val (.ref b12), .val (.ref ar), .val (.ref r), .unset, .unset, .unset, .unset, .unset, .unset, .unset, .unset, .unset, .unset, .unset] [(.long pa)])) _
      refine XS.lstore X16.here hx rfl (hb hby at_141) rfl (l' := #[.val (.long p1), .second, .val (.int p2), .val (.long p3), .second, .val (.int p4), .val (.long sz), .second, .val (.long wo), .second, .val (.ref b12), .val (.ref ar), .val (.ref r), .val (.long pa), .second, .unset, .unset, .unset, .unset, .unset, .unset, .unset, .unset, .unset]) rfl ?_
      show Steps p.tables e below (T16.setTop (mkF m 143 #[.val (.long p1), .second, .val (.int p2), .val (.long p3), .second, .val (.int p4), .val (.long sz), .second, .val (.long wo), .second, .val (.ref b12), .val (.ref ar), .val (.ref r), .val (.long pa), .second, .unset, .unset, .unset, .unset, .unset, .unset, .unset, .unset, .unset] [])) _
      refine XS.lload X16.here hx rfl (hb hby at_143) rfl ?_
      refine X16.ldc2Long hx hown (mvT hZ (hw _ (List.mem_of_getElem? (i := 43) rfl))) (g := (mkF m 145 #[.val (.long p1), .second, .val (.int p2), .val (.long p3), .second, .val (.int p4), .val (.long sz), .second, .val (.long wo), .second, .val (.ref b12), .val (.ref ar), .val (.ref r), .val (.long pa), .second, .unset, .unset, .unset, .unset, .unset, .unset, .unset, .unset, .unset] [(.long wo)])) rfl (hb hby at_145) _ ?_
      refine own_lremM X16 hx rfl (hb hby at_148) rfl (by decide) ?_
      refine XS.lstore X16.here hx rfl (hb hby at_149) rfl (l' := #[.val (.long p1), .second, .val (.int p2), .val (.long p3), .second, .val (.int p4), .val (.long sz), .second, .val (.long wo), .second, .val (.ref b12), .val (.ref ar), .val (.ref r), .val (.long pa), .second, .val (.long (wo % (32768 : Int64))), .second, .unset, .unset, .unset, .unset, .unset, .unset, .unset]) rfl ?_
      refine XS.lload X16.here hx rfl (hb hby at_151) rfl ?_
      refine X16.ldc2Long hx hown (mvT hZ (hw _ (List.mem_of_getElem? (i := 44) rfl))) (g := (mkF m 153 #[.val (.long p1), .second, .val (.int p2), .val (.long p3), .second, .val (.int p4), .val (.long sz), .second, .val (.long wo), .second, .val (.ref b12), .val (.ref ar), .val (.ref r), .val (.long pa), .second, .val (.long (wo % (32768 : Int64))), .second, .unset, .unset, .unset, .unset, .unset, .unset, .unset] [(.long (wo % (32768 : Int64)))])) rfl (hb hby at_153) _ ?_
      show Steps p.tables e below (T16.setTop (mkF m 156 #[.val (.long p1), .second, .val (.int p2), .val (.long p3), .second, .val (.int p4), .val (.long sz), .second, .val (.long wo), .second, .val (.ref b12), .val (.ref ar), .val (.ref r), .val (.long pa), .second, .val (.long (wo % (32768 : Int64))), .second, .unset, .unset, .unset, .unset, .unset, .unset, .unset] [(.long (32764 : Int64)), (.long (wo % (32768 : Int64)))])) _
      refine XS.lcmp X16.here hx rfl (hb hby at_156) rfl ?_
      refine XS.ifNo X16.here hx rfl (hb hby at_157) rfl ((if0 _ _).trans (tlt ((own_lclt hc) : (lcmpW (wo % (32768 : Int64)) (32764 : Int64)) < (0 : Int32))).2.1) ?_
      refine XS.iconst X16.here hx rfl (hb hby at_160) ?_
      refine XS.goto X16.here hx rfl (pc0 := 161) (pc' := 165) rfl (hb hby at_161) (by decide) (by decide) ?_
      refine XS.istore X16.here hx rfl (hb hby at_165) rfl (l' := #[.val (.long p1), .second, .val (.int p2), .val (.long p3), .second, .val (.int p4), .val (.long sz), .second, .val (.long wo), .second, .val (.ref b12), .val (.ref ar), .val (.ref r), .val (.long pa), .second, .val (.long (wo % (32768 : Int64))), .second, .val (.int (1 : Int32)), .unset, .unset, .unset, .unset, .unset, .unset]) rfl ?_
      refine XS.iload X16.here hx rfl (hb hby at_167) rfl ?_
      show Steps p.tables e below (T16.setTop (mkF m 169 #[.val (.long p1), .second, .val (.int p2), .val (.long p3), .second, .val (.int p4), .val (.long sz), .second, .val (.long wo), .second, .val (.ref b12), .val (.ref ar), .val (.ref r), .val (.long pa), .second, .val (.long (wo % (32768 : Int64))), .second, .val (.int (1 : Int32)), .unset, .unset, .unset, .unset, .unset, .unset] [(.int (1 : Int32))])) _
      refine XS.ifNo X16.here hx rfl (hb hby at_169) rfl ((if0 _ _).trans (feq ((by decide) : ¬ ((1 : Int32) = (0 : Int32)))).1) ?_
      refine X16.ldc2Long hx hown (mvT hZ (hw _ (List.mem_of_getElem? (i := 45) rfl))) (g := (mkF m 172 #[.val (.long p1), .second, .val (.int p2), .val (.long p3), .second, .val (.int p4), .val (.long sz), .second, .val (.long wo), .second, .val (.ref b12), .val (.ref ar), .val (.ref r), .val (.long pa), .second, .val (.long (wo % (32768 : Int64))), .second, .val (.int (1 : Int32)), .unset, .unset, .unset, .unset, .unset, .unset] [])) rfl (hb hby at_172) _ ?_
      refine XS.lload X16.here hx rfl (hb hby at_175) rfl ?_
      refine XS.lmul X16.here hx rfl (hb hby at_177) rfl ?_
      refine XS.goto X16.here hx rfl (pc0 := 178) (pc' := 189) rfl (hb hby at_178) (by decide) (by decide) ?_
      exact kk_)
    obtain ⟨ix, h_ix⟩ : ∃ z : Int64, z = ((2 : Int64) * pa) := ⟨_, rfl⟩
    rw [← h_ix] at pre18
    have hix : ix.toInt = (((2 * pg) : Nat) : Int) := by rw [h_ix]; exact (own_2p hpa (by omega)).1
    have hkn : (((2 * pg) : Nat) : Int) < nn.toInt := by rw [hnn]; split <;> omega
    obtain ⟨cl19, Ar19, q19, S19, M19, H19, G19⟩ := id Aa
    obtain ⟨_, _, ⟨T20, L20, k20, n20⟩, -, X20, ⟨Lc20, hQ20, l20, y20, z20⟩, st20⟩ := Jvm.LawKit.callS X16 hx (y := (⟨"java/lang/Math", "min", "(JJ)J"⟩ : MethodName)) hown (mvT hZ (hw _ (List.mem_of_getElem? (i := 46) rfl))) (mvT hZ (hw _ (List.mem_of_getElem? (i := 47) rfl))) (mvT hZ (hw _ (List.mem_of_getElem? (i := 26) rfl))) (mvT hZ (hw _ (List.mem_of_getElem? (i := 48) rfl))) (by decide) (backOf (W := 0) (rmMinL l Z a0 hw [] (32768 : Int64) (sz - (pa * (32768 : Int64))) (own_minL (32768 : Int64) (sz - (pa * (32768 : Int64)))) h13 n0 z13 rfl) hZ (hw _ (List.mem_of_getElem? (i := 48) rfl)) (hw _ (List.mem_of_getElem? (i := 26) rfl)) (by decide) (by decide)) (g := (mkF m 215 #[.val (.long p1), .second, .val (.int p2), .val (.long p3), .second, .val (.int p4), .val (.long sz), .second, .val (.long wo), .second, .val (.ref b12), .val (.ref ar), .val (.ref r), .val (.long pa), .second, .val (.long (wo % (32768 : Int64))), .second, .val (.int (1 : Int32)), .val (.long ix), .second, .unset, .unset, .unset, .unset] [(.long (sz - (pa * (32768 : Int64)))), (.long (32768 : Int64))])) rfl (by rw [hml]; rfl) (argsL := [(.long (32768 : Int64)), (.long (sz - (pa * (32768 : Int64))))]) (rest := []) (lenOf own_pd4 rfl) rfl (by show 2 * 0 + _ ≤ _; exact Nat.le_of_eq rfl) (hb hby at_215) (fun _ _ => ⟨rfl, e16, (by decide : 12 + 0 ≤ _), (by decide : 131092 + 0 ≤ _)⟩)
    dsimp only [Pt.U, Pt.locs, Pt.cells, Pt.slots] at X20 l20 y20 z20 st20 hQ20
    replace l20 := l20.symm; subst l20 y20 z20
    obtain ⟨rfl, N20q, e20⟩ := hQ20
    have N20 := Fr.app N16 N20q
    have pre21 : ∀ tt_, Steps p.tables e below (T20.setTop (mkF m 218 #[.val (.long p1), .second, .val (.int p2), .val (.long p3), .second, .val (.int p4), .val (.long sz), .second, .val (.long wo), .second, .val (.ref b12), .val (.ref ar), .val (.ref r), .val (.long pa), .second, .val (.long (wo % (32768 : Int64))), .second, .val (.int (1 : Int32)), .val (.long ix), .second, .unset, .unset, .unset, .unset] [(.long (own_minL (32768 : Int64) (sz - (pa * (32768 : Int64)))))])) tt_ → Steps p.tables e below (s₁.setTop (entryFrame m #[(.long p1), (.int p2), (.long p3), (.int p4)] maxLocals)) tt_ := fun tt_ kk_ => pre18 tt_ (by
      show Steps p.tables e below (T16.setTop (mkF m 189 #[.val (.long p1), .second, .val (.int p2), .val (.long p3), .second, .val (.int p4), .val (.long sz), .second, .val (.long wo), .second, .val (.ref b12), .val (.ref ar), .val (.ref r), .val (.long pa), .second, .val (.long (wo % (32768 : Int64))), .second, .val (.int (1 : Int32)), .unset, .unset, .unset, .unset, .unset, .unset] [(.long ix)])) _
      refine XS.lstore X16.here hx rfl (hb hby at_189) rfl (l' := #[.val (.long p1), .second, .val (.int p2), .val (.long p3), .second, .val (.int p4), .val (.long sz), .second, .val (.long wo), .second, .val (.ref b12), .val (.ref ar), .val (.ref r), .val (.long pa), .second, .val (.long (wo % (32768 : Int64))), .second, .val (.int (1 : Int32)), .val (.long ix), .second, .unset, .unset, .unset, .unset]) rfl ?_
      show Steps p.tables e below (T16.setTop (mkF m 191 #[.val (.long p1), .second, .val (.int p2), .val (.long p3), .second, .val (.int p4), .val (.long sz), .second, .val (.long wo), .second, .val (.ref b12), .val (.ref ar), .val (.ref r), .val (.long pa), .second, .val (.long (wo % (32768 : Int64))), .second, .val (.int (1 : Int32)), .val (.long ix), .second, .unset, .unset, .unset, .unset] [])) _
      refine XS.lload X16.here hx rfl (hb hby at_191) rfl ?_
      refine XS.aload X16.here hx rfl (hb hby at_193) rfl rfl ?_
      refine X16.arraylength hx (by rw [e16]; exact Ar19.1) (State.isArrayOf_alike hZ.alike Ar19.2.1) (g := (mkF m 195 #[.val (.long p1), .second, .val (.int p2), .val (.long p3), .second, .val (.int p4), .val (.long sz), .second, .val (.long wo), .second, .val (.ref b12), .val (.ref ar), .val (.ref r), .val (.long pa), .second, .val (.long (wo % (32768 : Int64))), .second, .val (.int (1 : Int32)), .val (.long ix), .second, .unset, .unset, .unset, .unset] [(.ref ar), (.long ix)])) rfl rfl (hb hby at_195) _ ?_
      rw [len_of S19 M19]
      show Steps p.tables e below (T16.setTop (mkF m 196 #[.val (.long p1), .second, .val (.int p2), .val (.long p3), .second, .val (.int p4), .val (.long sz), .second, .val (.long wo), .second, .val (.ref b12), .val (.ref ar), .val (.ref r), .val (.long pa), .second, .val (.long (wo % (32768 : Int64))), .second, .val (.int (1 : Int32)), .val (.long ix), .second, .unset, .unset, .unset, .unset] [(.int nn), (.long ix)])) _
      refine XS.i2l X16.here hx rfl (hb hby at_196) rfl ?_
      refine XS.lcmp X16.here hx rfl (hb hby at_197) rfl ?_
      refine XS.ifYes X16.here hx rfl (pc0 := 198) (pc' := 203) rfl (hb hby at_198) rfl ((if0 _ _).trans (tlt ((own_lclt (own_ltL hix hkn)) : (lcmpW ix (nn.toInt64)) < (0 : Int32))).1) (by decide) (by decide) ?_
      show Steps p.tables e below (T16.setTop (mkF m 203 #[.val (.long p1), .second, .val (.int p2), .val (.long p3), .second, .val (.int p4), .val (.long sz), .second, .val (.long wo), .second, .val (.ref b12), .val (.ref ar), .val (.ref r), .val (.long pa), .second, .val (.long (wo % (32768 : Int64))), .second, .val (.int (1 : Int32)), .val (.long ix), .second, .unset, .unset, .unset, .unset] [])) _
      refine X16.ldc2Long hx hown (mvT hZ (hw _ (List.mem_of_getElem? (i := 43) rfl))) (g := (mkF m 203 #[.val (.long p1), .second, .val (.int p2), .val (.long p3), .second, .val (.int p4), .val (.long sz), .second, .val (.long wo), .second, .val (.ref b12), .val (.ref ar), .val (.ref r), .val (.long pa), .second, .val (.long (wo % (32768 : Int64))), .second, .val (.int (1 : Int32)), .val (.long ix), .second, .unset, .unset, .unset, .unset] [])) rfl (hb hby at_203) _ ?_
      refine XS.lload X16.here hx rfl (hb hby at_206) rfl ?_
      refine XS.lload X16.here hx rfl (hb hby at_208) rfl ?_
      refine X16.ldc2Long hx hown (mvT hZ (hw _ (List.mem_of_getElem? (i := 43) rfl))) (g := (mkF m 210 #[.val (.long p1), .second, .val (.int p2), .val (.long p3), .second, .val (.int p4), .val (.long sz), .second, .val (.long wo), .second, .val (.ref b12), .val (.ref ar), .val (.ref r), .val (.long pa), .second, .val (.long (wo % (32768 : Int64))), .second, .val (.int (1 : Int32)), .val (.long ix), .second, .unset, .unset, .unset, .unset] [(.long pa), (.long sz), (.long (32768 : Int64))])) rfl (hb hby at_210) _ ?_
      refine XS.lmul X16.here hx rfl (hb hby at_213) rfl ?_
      refine XS.lsub X16.here hx rfl (hb hby at_214) rfl ?_
      show Steps p.tables e below (T16.setTop (mkF m 215 #[.val (.long p1), .second, .val (.int p2), .val (.long p3), .second, .val (.int p4), .val (.long sz), .second, .val (.long wo), .second, .val (.ref b12), .val (.ref ar), .val (.ref r), .val (.long pa), .second, .val (.long (wo % (32768 : Int64))), .second, .val (.int (1 : Int32)), .val (.long ix), .second, .unset, .unset, .unset, .unset] [(.long (sz - (pa * (32768 : Int64)))), (.long (32768 : Int64))])) _
      refine st20 _ ?_
      exact kk_)
    obtain ⟨pw, h_pw⟩ : ∃ z : Int64, z = (own_minL (32768 : Int64) (sz - (pa * (32768 : Int64)))) := ⟨_, rfl⟩
    rw [← h_pw] at pre21
    have hpw : pw.toInt = if pg + 1 < pn then 32768 else lw.toInt := by rw [h_pw]; exact own_pw hsz hsq hlb hpn4 hpn hpa
    obtain ⟨_, _, ⟨T22, L22, k22, n22⟩, -, X22, ⟨Lc22, hQ22, l22, y22, z22⟩, st22⟩ := Jvm.LawKit.callS X20 hx (y := (⟨"java/lang/Math", "min", "(JJ)J"⟩ : MethodName)) hown (mvT hZ (hw _ (List.mem_of_getElem? (i := 46) rfl))) (mvT hZ (hw _ (List.mem_of_getElem? (i := 47) rfl))) (mvT hZ (hw _ (List.mem_of_getElem? (i := 26) rfl))) (mvT hZ (hw _ (List.mem_of_getElem? (i := 48) rfl))) (by decide) (backOf (W := 0) (rmMinL l Z a0 hw [] pw (32764 : Int64) (own_minL pw (32764 : Int64)) h13 n0 z13 rfl) hZ (hw _ (List.mem_of_getElem? (i := 48) rfl)) (hw _ (List.mem_of_getElem? (i := 26) rfl)) (by decide) (by decide)) (g := (mkF m 230 #[.val (.long p1), .second, .val (.int p2), .val (.long p3), .second, .val (.int p4), .val (.long sz), .second, .val (.long wo), .second, .val (.ref b12), .val (.ref ar), .val (.ref r), .val (.long pa), .second, .val (.long (wo % (32768 : Int64))), .second, .val (.int (1 : Int32)), .val (.long ix), .second, .val (.long pw), .second, .unset, .unset] [(.long (32764 : Int64)), (.long pw)])) rfl (by rw [hml]; rfl) (argsL := [(.long pw), (.long (32764 : Int64))]) (rest := []) (lenOf own_pd4 rfl) rfl (by show 2 * 0 + _ ≤ _; exact Nat.le_of_eq rfl) (hb hby at_230) (fun _ _ => ⟨rfl, e20, (by decide : 12 + 0 ≤ _), (by decide : 131092 + 0 ≤ _)⟩)
    dsimp only [Pt.U, Pt.locs, Pt.cells, Pt.slots] at X22 l22 y22 z22 st22 hQ22
    replace l22 := l22.symm; subst l22 y22 z22
    obtain ⟨rfl, N22q, e22⟩ := hQ22
    have N22 := Fr.app N20 N22q
    have pre23 : ∀ tt_, Steps p.tables e below (T22.setTop (mkF m 242 #[.val (.long p1), .second, .val (.int p2), .val (.long p3), .second, .val (.int p4), .val (.long sz), .second, .val (.long wo), .second, .val (.ref b12), .val (.ref ar), .val (.ref r), .val (.long pa), .second, .val (.long (wo % (32768 : Int64))), .second, .val (.int (1 : Int32)), .val (.long ix), .second, .val (.long pw), .second, .unset, .unset] [(.long (own_minL pw (32764 : Int64)))])) tt_ → Steps p.tables e below (s₁.setTop (entryFrame m #[(.long p1), (.int p2), (.long p3), (.int p4)] maxLocals)) tt_ := fun tt_ kk_ => pre21 tt_ (by
      show Steps p.tables e below (T20.setTop (mkF m 218 #[.val (.long p1), .second, .val (.int p2), .val (.long p3), .second, .val (.int p4), .val (.long sz), .second, .val (.long wo), .second, .val (.ref b12), .val (.ref ar), .val (.ref r), .val (.long pa), .second, .val (.long (wo % (32768 : Int64))), .second, .val (.int (1 : Int32)), .val (.long ix), .second, .unset, .unset, .unset, .unset] [(.long pw)])) _
      refine XS.lstore X20.here hx rfl (hb hby at_218) rfl (l' := #[.val (.long p1), .second, .val (.int p2), .val (.long p3), .second, .val (.int p4), .val (.long sz), .second, .val (.long wo), .second, .val (.ref b12), .val (.ref ar), .val (.ref r), .val (.long pa), .second, .val (.long (wo % (32768 : Int64))), .second, .val (.int (1 : Int32)), .val (.long ix), .second, .val (.long pw), .second, .unset, .unset]) rfl ?_
      refine XS.iload X20.here hx rfl (hb hby at_220) rfl ?_
      refine XS.ifNo X20.here hx rfl (hb hby at_222) rfl ((if0 _ _).trans (feq ((by decide) : ¬ ((1 : Int32) = (0 : Int32)))).1) ?_
      refine XS.lload X20.here hx rfl (hb hby at_225) rfl ?_
      refine X20.ldc2Long hx hown (mvT hZ (hw _ (List.mem_of_getElem? (i := 44) rfl))) (g := (mkF m 227 #[.val (.long p1), .second, .val (.int p2), .val (.long p3), .second, .val (.int p4), .val (.long sz), .second, .val (.long wo), .second, .val (.ref b12), .val (.ref ar), .val (.ref r), .val (.long pa), .second, .val (.long (wo % (32768 : Int64))), .second, .val (.int (1 : Int32)), .val (.long ix), .second, .val (.long pw), .second, .unset, .unset] [(.long pw)])) rfl (hb hby at_227) _ ?_
      show Steps p.tables e below (T20.setTop (mkF m 230 #[.val (.long p1), .second, .val (.int p2), .val (.long p3), .second, .val (.int p4), .val (.long sz), .second, .val (.long wo), .second, .val (.ref b12), .val (.ref ar), .val (.ref r), .val (.long pa), .second, .val (.long (wo % (32768 : Int64))), .second, .val (.int (1 : Int32)), .val (.long ix), .second, .val (.long pw), .second, .unset, .unset] [(.long (32764 : Int64)), (.long pw)])) _
      refine st22 _ ?_
      refine XS.goto X22.here hx rfl (pc0 := 233) (pc' := 242) rfl (hb hby at_233) (by decide) (by decide) ?_
      exact kk_)
    obtain ⟨ex, h_ex⟩ : ∃ z : Int64, z = (own_minL pw (32764 : Int64)) := ⟨_, rfl⟩
    rw [← h_ex] at pre23
    have hex := own_expH hlb hpw
    rw [← h_ex] at hex
    have hi32 : ix.toInt32 = Int32.ofNat (2 * pg) := own_of64 hix (by omega)
    obtain ⟨cl24, Ar24, q24, S24, M24, H24, G24⟩ := id Aa
    have hin24 : ¬ ((ix.toInt32) < 0 ∨ cl24.slots.size ≤ ((ix.toInt32)).toNatClampNeg) := inb_of S24 (hi32 ▸ own_inbN hkn (by omega))
    have hat24 : cl24.slots[((ix.toInt32)).toNatClampNeg]? = some (.ref r) := Has.at H24 hin24 (by rw [hi32, own_nat (by omega)]; exact hr2)
    obtain ⟨cl25, Ar25, S25, M25⟩ := id hL
    have pre26 : ∀ tt_, Steps p.tables e below (T22.setTop (mkF m 277 #[.val (.long p1), .second, .val (.int p2), .val (.long p3), .second, .val (.int p4), .val (.long sz), .second, .val (.long wo), .second, .val (.ref b12), .val (.ref ar), .val (.ref r), .val (.long pa), .second, .val (.long (wo % (32768 : Int64))), .second, .val (.int (1 : Int32)), .val (.long ix), .second, .val (.long pw), .second, .val (.long ex), .second] [(.int (1 : Int32))])) tt_ → Steps p.tables e below (s₁.setTop (entryFrame m #[(.long p1), (.int p2), (.long p3), (.int p4)] maxLocals)) tt_ := fun tt_ kk_ => pre23 tt_ (by
      show Steps p.tables e below (T22.setTop (mkF m 242 #[.val (.long p1), .second, .val (.int p2), .val (.long p3), .second, .val (.int p4), .val (.long sz), .second, .val (.long wo), .second, .val (.ref b12), .val (.ref ar), .val (.ref r), .val (.long pa), .second, .val (.long (wo % (32768 : Int64))), .second, .val (.int (1 : Int32)), .val (.long ix), .second, .val (.long pw), .second, .unset, .unset] [(.long ex)])) _
      refine XS.lstore X22.here hx rfl (hb hby at_242) rfl (l' := #[.val (.long p1), .second, .val (.int p2), .val (.long p3), .second, .val (.int p4), .val (.long sz), .second, .val (.long wo), .second, .val (.ref b12), .val (.ref ar), .val (.ref r), .val (.long pa), .second, .val (.long (wo % (32768 : Int64))), .second, .val (.int (1 : Int32)), .val (.long ix), .second, .val (.long pw), .second, .val (.long ex), .second]) rfl ?_
      refine XS.aload X22.here hx rfl (hb hby at_244) rfl rfl ?_
      refine XS.aload X22.here hx rfl (hb hby at_246) rfl rfl ?_
      refine XS.lload X22.here hx rfl (hb hby at_248) rfl ?_
      refine XS.l2i X22.here hx rfl (hb hby at_250) rfl ?_
      refine X22.aaload hx (j := (ix.toInt32)) (v := (.ref r)) (by rw [e22]; exact Ar24.1) (State.isArrayOf_alike hZ.alike Ar24.2.1) rfl Ar24.2.2 hin24 hat24 (g := (mkF m 251 #[.val (.long p1), .second, .val (.int p2), .val (.long p3), .second, .val (.int p4), .val (.long sz), .second, .val (.long wo), .second, .val (.ref b12), .val (.ref ar), .val (.ref r), .val (.long pa), .second, .val (.long (wo % (32768 : Int64))), .second, .val (.int (1 : Int32)), .val (.long ix), .second, .val (.long pw), .second, .val (.long ex), .second] [(.int (ix.toInt32)), (.ref ar), (.ref r)])) rfl rfl (hb hby at_251) _ ?_
      show Steps p.tables e below (T22.setTop (mkF m 252 #[.val (.long p1), .second, .val (.int p2), .val (.long p3), .second, .val (.int p4), .val (.long sz), .second, .val (.long wo), .second, .val (.ref b12), .val (.ref ar), .val (.ref r), .val (.long pa), .second, .val (.long (wo % (32768 : Int64))), .second, .val (.int (1 : Int32)), .val (.long ix), .second, .val (.long pw), .second, .val (.long ex), .second] [(.ref r), (.ref r)])) _
      refine Jvm.RoadKit.acmp (g := (mkF m 252 #[.val (.long p1), .second, .val (.int p2), .val (.long p3), .second, .val (.int p4), .val (.long sz), .second, .val (.long wo), .second, .val (.ref b12), .val (.ref ar), .val (.ref r), .val (.long pa), .second, .val (.long (wo % (32768 : Int64))), .second, .val (.int (1 : Int32)), .val (.long ix), .second, .val (.long pw), .second, .val (.long ex), .second] [(.ref r), (.ref r)])) X22 hx rfl rfl rfl (pc0 := 252) (pc' := 255) (same := true) rfl (hb hby at_252) rfl (decide_eq_true (rfl)) (by decide) (by decide) ?_
      refine XS.aload X22.here hx rfl (hb hby at_255) rfl rfl ?_
      refine X22.arraylength hx (by rw [e22]; exact Ar25.1) (State.isArrayOf_alike hZ.alike Ar25.2.1) (g := (mkF m 257 #[.val (.long p1), .second, .val (.int p2), .val (.long p3), .second, .val (.int p4), .val (.long sz), .second, .val (.long wo), .second, .val (.ref b12), .val (.ref ar), .val (.ref r), .val (.long pa), .second, .val (.long (wo % (32768 : Int64))), .second, .val (.int (1 : Int32)), .val (.long ix), .second, .val (.long pw), .second, .val (.long ex), .second] [(.ref r)])) rfl rfl (hb hby at_257) _ ?_
      rw [len_of S25 M25]
      show Steps p.tables e below (T22.setTop (mkF m 258 #[.val (.long p1), .second, .val (.int p2), .val (.long p3), .second, .val (.int p4), .val (.long sz), .second, .val (.long wo), .second, .val (.ref b12), .val (.ref ar), .val (.ref r), .val (.long pa), .second, .val (.long (wo % (32768 : Int64))), .second, .val (.int (1 : Int32)), .val (.long ix), .second, .val (.long pw), .second, .val (.long ex), .second] [(.int (own_lenH pn lw pg))])) _
      refine XS.i2l X22.here hx rfl (hb hby at_258) rfl ?_
      refine XS.lload X22.here hx rfl (hb hby at_259) rfl ?_
      refine XS.lcmp X22.here hx rfl (hb hby at_261) rfl ?_
      show Steps p.tables e below (T22.setTop (mkF m 262 #[.val (.long p1), .second, .val (.int p2), .val (.long p3), .second, .val (.int p4), .val (.long sz), .second, .val (.long wo), .second, .val (.ref b12), .val (.ref ar), .val (.ref r), .val (.long pa), .second, .val (.long (wo % (32768 : Int64))), .second, .val (.int (1 : Int32)), .val (.long ix), .second, .val (.long pw), .second, .val (.long ex), .second] [(.int (lcmpW ((own_lenH pn lw pg).toInt64) ex))])) _
      refine XS.ifNo X22.here hx rfl (hb hby at_262) rfl ((if0 _ _).trans (teq ((own_lc0 hex.1) : (lcmpW ((own_lenH pn lw pg).toInt64) ex) = (0 : Int32))).2) ?_
      refine XS.lload X22.here hx rfl (hb hby at_265) rfl ?_
      refine XS.lconst X22.here hx rfl (hb hby at_267) ?_
      refine XS.lcmp X22.here hx rfl (hb hby at_268) rfl ?_
      refine XS.ifNo X22.here hx rfl (hb hby at_269) rfl ((if0 _ _).trans (tlt ((own_lcgt hex.2) : (0 : Int32) < (lcmpW ex (0 : Int64)))).2.2.2) ?_
      refine XS.iconst X22.here hx rfl (hb hby at_272) ?_
      show Steps p.tables e below (T22.setTop (mkF m 273 #[.val (.long p1), .second, .val (.int p2), .val (.long p3), .second, .val (.int p4), .val (.long sz), .second, .val (.long wo), .second, .val (.ref b12), .val (.ref ar), .val (.ref r), .val (.long pa), .second, .val (.long (wo % (32768 : Int64))), .second, .val (.int (1 : Int32)), .val (.long ix), .second, .val (.long pw), .second, .val (.long ex), .second] [(.int (1 : Int32))])) _
      refine XS.goto X22.here hx rfl (pc0 := 273) (pc' := 277) rfl (hb hby at_273) (by decide) (by decide) ?_
      exact kk_)
    obtain ⟨fs, hr, hrun, hended, hW, hsame⟩ := X22.leave (v := some (.int (nar .boolean (1 : Int32)))) (fun h => by rw [Bd.returns] at h; cases h)
    refine ⟨_, _, pre26 _ ?_, hrun, hended, _, _, rfl, ?_, ⟨_, rfl⟩, hW, hsame.mono (by decide) (by decide)⟩
    · show Steps p.tables e below (T22.setTop (mkF m 277 #[.val (.long p1), .second, .val (.int p2), .val (.long p3), .second, .val (.int p4), .val (.long sz), .second, .val (.long wo), .second, .val (.ref b12), .val (.ref ar), .val (.ref r), .val (.long pa), .second, .val (.long (wo % (32768 : Int64))), .second, .val (.int (1 : Int32)), .val (.long ix), .second, .val (.long pw), .second, .val (.long ex), .second] [(.int (1 : Int32))])) _
      exact retN X22 hx (t := .boolean) Bd.returns (by simp) (hb hby at_277) hr
    · show QL n0 _ T22.heap _
      rw [e22]
      exact ⟨rfl, N22⟩
  · have hq : pg + 1 < pn ∨ (32764 : Int32) < lw := by
      have t : (32764 : Int32).toInt = 32764 := by decide
      have t' : (32764 : Int64).toInt = 32764 := by decide
      have hc' := hc
      rw [Int64.lt_iff_toInt_lt, (own_divm wo hw0).2, t'] at hc'
      rw [Int32.lt_iff_toInt_lt, t]
      omega
    obtain ⟨r, hr1, hr2, hL⟩ := H2 pg hpn hq
    obtain ⟨cq27, kq27, q27a, q27b, q27c⟩ := isOf hZ e13 X13_146
    obtain ⟨_, _, ⟨T27, L27, k27, n27⟩, -, X27, ⟨Lc27, hQ27, l27, y27, z27⟩, st27⟩ := X13.virtualBack hx (y := (⟨"com/example/elderflower/elderflower/PagedWords", "arrays", "()[[J"⟩ : MethodName)) (z := (⟨"com/example/elderflower/elderflower/PagedWords", "arrays", "()[[J"⟩ : MethodName)) hown (mvT hZ (hw _ (List.mem_of_getElem? (i := 33) rfl))) (mvT hZ (hw _ (List.mem_of_getElem? (i := 34) rfl))) (notFace_of_selects (args := #[]) (mvT hZ (hw _ (List.mem_of_getElem? (i := 36) rfl)))) (mvT hZ (hw _ (List.mem_of_getElem? (i := 36) rfl))) (mvT hZ (hw _ (List.mem_of_getElem? (i := 35) rfl))) (by decide) (backOf (W := 0) (rmR l Z a0 hw [] b12 ar h13 n0 z13 fa) hZ (hw _ (List.mem_of_getElem? (i := 37) rfl)) (hw _ (List.mem_of_getElem? (i := 4) rfl)) (by decide) (by decide)) q27a q27c (g := (mkF m 121 #[.val (.long p1), .second, .val (.int p2), .val (.long p3), .second, .val (.int p4), .val (.long sz), .second, .val (.long wo), .second, .val (.ref b12), .unset, .unset, .unset, .unset, .unset, .unset, .unset, .unset, .unset, .unset, .unset, .unset, .unset] [(.ref b12)])) rfl (by rw [hml]; rfl) (Steps.refl _) (argsL := []) (rest := []) (lenOf own_pd2 rfl) rfl (by show 2 * 0 + _ ≤ _; exact Nat.le_of_eq rfl) (hb hby at_121) (fun _ _ => ⟨rfl, e13, (by decide : 12 + 0 ≤ _), (by decide : 131092 + 0 ≤ _)⟩)
    dsimp only [Pt.U, Pt.locs, Pt.cells, Pt.slots] at X27 l27 y27 z27 st27 hQ27
    replace l27 := l27.symm; subst l27 y27 z27
    obtain ⟨rfl, N27q, e27⟩ := hQ27
    have N27 := Fr.app N13 N27q
    obtain ⟨cq28, kq28, q28a, q28b, q28c⟩ := isOf hZ e27 X13_146
    obtain ⟨_, _, ⟨T28, L28, k28, n28⟩, -, X28, ⟨Lc28, hQ28, l28, y28, z28⟩, st28⟩ := X27.virtualBack hx (y := (⟨"com/example/elderflower/elderflower/PagedWords", "arrayOf", "(J)[J"⟩ : MethodName)) (z := (⟨"com/example/elderflower/elderflower/PagedWords", "arrayOf", "(J)[J"⟩ : MethodName)) hown (mvT hZ (hw _ (List.mem_of_getElem? (i := 38) rfl))) (mvT hZ (hw _ (List.mem_of_getElem? (i := 39) rfl))) (notFace_of_selects (args := #[]) (mvT hZ (hw _ (List.mem_of_getElem? (i := 41) rfl)))) (mvT hZ (hw _ (List.mem_of_getElem? (i := 41) rfl))) (mvT hZ (hw _ (List.mem_of_getElem? (i := 40) rfl))) (by decide) (backOf (W := 0) (rmAt l Z a0 hw [] b12 wo tl r kt (Int32.ofNat pn) (Int32.ofNat pg) vt h13 n0 z13 S13_147 ft At (own_wpg hw0 (by omega) hpg) (fun q => hc ((own_lowlt hw0).mp q)) (own_inb hpn (by omega)) (by rw [own_nat (by omega)]; exact hr1)) hZ (hw _ (List.mem_of_getElem? (i := 42) rfl)) (hw _ (List.mem_of_getElem? (i := 4) rfl)) (by decide) (by decide)) q28a q28c (g := (mkF m 130 #[.val (.long p1), .second, .val (.int p2), .val (.long p3), .second, .val (.int p4), .val (.long sz), .second, .val (.long wo), .second, .val (.ref b12), .val (.ref ar), .unset, .unset, .unset, .unset, .unset, .unset, .unset, .unset, .unset, .unset, .unset, .unset] [(.long wo), (.ref b12)])) rfl (by rw [hml]; rfl) (Steps.refl _) (argsL := [(.long wo)]) (rest := []) (lenOf own_pd3 rfl) rfl (by show 2 * 0 + _ ≤ _; exact Nat.le_of_eq rfl) (hb hby at_130) (fun _ _ => ⟨rfl, e27, (by decide : 12 + 0 ≤ _), (by decide : 131092 + 0 ≤ _)⟩)
    dsimp only [Pt.U, Pt.locs, Pt.cells, Pt.slots] at X28 l28 y28 z28 st28 hQ28
    replace l28 := l28.symm; subst l28 y28 z28
    obtain ⟨rfl, N28q, e28⟩ := hQ28
    have N28 := Fr.app N27 N28q
    have pre29 : ∀ tt_, Steps p.tables e below (T28.setTop (mkF m 141 #[.val (.long p1), .second, .val (.int p2), .val (.long p3), .second, .val (.int p4), .val (.long sz), .second, .val (.long wo), .second, .val (.ref b12), .val (.ref ar), .val (.ref r), .unset, .unset, .unset, .unset, .unset, .unset, .unset, .unset, .unset, .unset, .unset] [(.long (wo / (32768 : Int64)))])) tt_ → Steps p.tables e below (s₁.setTop (entryFrame m #[(.long p1), (.int p2), (.long p3), (.int p4)] maxLocals)) tt_ := fun tt_ kk_ => pre14 tt_ (by
      show Steps p.tables e below (T13.setTop (mkF m 119 #[.val (.long p1), .second, .val (.int p2), .val (.long p3), .second, .val (.int p4), .val (.long sz), .second, .val (.long wo), .second, .val (.ref b12), .unset, .unset, .unset, .unset, .unset, .unset, .unset, .unset, .unset, .unset, .unset, .unset, .unset] [])) _
      refine XS.aload X13.here hx rfl (hb hby at_119) rfl rfl ?_
      show Steps p.tables e below (T13.setTop (mkF m 121 #[.val (.long p1), .second, .val (.int p2), .val (.long p3), .second, .val (.int p4), .val (.long sz), .second, .val (.long wo), .second, .val (.ref b12), .unset, .unset, .unset, .unset, .unset, .unset, .unset, .unset, .unset, .unset, .unset, .unset, .unset] [(.ref b12)])) _
      refine st27.trans ?_
      refine XS.astore X27.here hx rfl (hb hby at_124) rfl rfl (l' := #[.val (.long p1), .second, .val (.int p2), .val (.long p3), .second, .val (.int p4), .val (.long sz), .second, .val (.long wo), .second, .val (.ref b12), .val (.ref ar), .unset, .unset, .unset, .unset, .unset, .unset, .unset, .unset, .unset, .unset, .unset, .unset]) rfl ?_
      refine XS.aload X27.here hx rfl (hb hby at_126) rfl rfl ?_
      refine XS.lload X27.here hx rfl (hb hby at_128) rfl ?_
      show Steps p.tables e below (T27.setTop (mkF m 130 #[.val (.long p1), .second, .val (.int p2), .val (.long p3), .second, .val (.int p4), .val (.long sz), .second, .val (.long wo), .second, .val (.ref b12), .val (.ref ar), .unset, .unset, .unset, .unset, .unset, .unset, .unset, .unset, .unset, .unset, .unset, .unset] [(.long wo), (.ref b12)])) _
      refine st28.trans ?_
      refine XS.astore X28.here hx rfl (hb hby at_133) rfl rfl (l' := #[.val (.long p1), .second, .val (.int p2), .val (.long p3), .second, .val (.int p4), .val (.long sz), .second, .val (.long wo), .second, .val (.ref b12), .val (.ref ar), .val (.ref r), .unset, .unset, .unset, .unset, .unset, .unset, .unset, .unset, .unset, .unset, .unset]) rfl ?_
      show Steps p.tables e below (T28.setTop (mkF m 135 #[.val (.long p1), .second, .val (.int p2), .val (.long p3), .second, .val (.int p4), .val (.long sz), .second, .val (.long wo), .second, .val (.ref b12), .val (.ref ar), .val (.ref r), .unset, .unset, .unset, .unset, .unset, .unset, .unset, .unset, .unset, .unset, .unset] [])) _
      refine XS.lload X28.here hx rfl (hb hby at_135) rfl ?_
      refine X28.ldc2Long hx hown (mvT hZ (hw _ (List.mem_of_getElem? (i := 43) rfl))) (g := (mkF m 137 #[.val (.long p1), .second, .val (.int p2), .val (.long p3), .second, .val (.int p4), .val (.long sz), .second, .val (.long wo), .second, .val (.ref b12), .val (.ref ar), .val (.ref r), .unset, .unset, .unset, .unset, .unset, .unset, .unset, .unset, .unset, .unset, .unset] [(.long wo)])) rfl (hb hby at_137) _ ?_
      refine XS.ldiv X28.here hx rfl (hb hby at_140) rfl (by decide) ?_
      exact kk_)
    obtain ⟨pa, h_pa⟩ : ∃ z : Int64, z = (wo / (32768 : Int64)) := ⟨_, rfl⟩
    rw [← h_pa] at pre29
    have hpa : pa.toInt = (pg : Int) := by rw [h_pa, (own_divm wo hw0).1]; exact hpg
    have pre30 : ∀ tt_, Steps p.tables e below (T28.setTop (mkF m 189 #[.val (.long p1), .second, .val (.int p2), .val (.long p3), .second, .val (.int p4), .val (.long sz), .second, .val (.long wo), .second, .val (.ref b12), .val (.ref ar), .val (.ref r), .val (.long pa), .second, .val (.long (wo % (32768 : Int64))), .second, .val (.int (0 : Int32)), .unset, .unset, .unset, .unset, .unset, .unset] [(.long (((2 : Int64) * pa) + (1 : Int64)))])) tt_ → Steps p.tables e below (s₁.setTop (entryFrame m #[(.long p1), (.int p2), (.long p3), (.int p4)] maxLocals)) tt_ := fun tt_ kk_ => pre29 tt_ (by
      show Steps p.tables e below (T28.setTop (mkF m 141 #[.val (.long p1), .second, .val (.int p2), .val (.long p3), .second, .val (.int p4), .val (.long sz), .second, .val (.long wo), .second, .val (.ref b12), .val (.ref ar), .val (.ref r), .unset, .unset, .unset, .unset, .unset, .unset, .unset, .unset, .unset, .unset, .unset] [(.long pa)])) _
      refine XS.lstore X28.here hx rfl (hb hby at_141) rfl (l' := #[.val (.long p1), .second, .val (.int p2), .val (.long p3), .second, .val (.int p4), .val (.long sz), .second, .val (.long wo), .second, .val (.ref b12), .val (.ref ar), .val (.ref r), .val (.long pa), .second, .unset, .unset, .unset, .unset, .unset, .unset, .unset, .unset, .unset]) rfl ?_
      refine XS.lload X28.here hx rfl (hb hby at_143) rfl ?_
      refine X28.ldc2Long hx hown (mvT hZ (hw _ (List.mem_of_getElem? (i := 43) rfl))) (g := (mkF m 145 #[.val (.long p1), .second, .val (.int p2), .val (.long p3), .second, .val (.int p4), .val (.long sz), .second, .val (.long wo), .second, .val (.ref b12), .val (.ref ar), .val (.ref r), .val (.long pa), .second, .unset, .unset, .unset, .unset, .unset, .unset, .unset, .unset, .unset] [(.long wo)])) rfl (hb hby at_145) _ ?_
      show Steps p.tables e below (T28.setTop (mkF m 148 #[.val (.long p1), .second, .val (.int p2), .val (.long p3), .second, .val (.int p4), .val (.long sz), .second, .val (.long wo), .second, .val (.ref b12), .val (.ref ar), .val (.ref r), .val (.long pa), .second, .unset, .unset, .unset, .unset, .unset, .unset, .unset, .unset, .unset] [(.long (32768 : Int64)), (.long wo)])) _
      refine own_lremM X28 hx rfl (hb hby at_148) rfl (by decide) ?_
      refine XS.lstore X28.here hx rfl (hb hby at_149) rfl (l' := #[.val (.long p1), .second, .val (.int p2), .val (.long p3), .second, .val (.int p4), .val (.long sz), .second, .val (.long wo), .second, .val (.ref b12), .val (.ref ar), .val (.ref r), .val (.long pa), .second, .val (.long (wo % (32768 : Int64))), .second, .unset, .unset, .unset, .unset, .unset, .unset, .unset]) rfl ?_
      refine XS.lload X28.here hx rfl (hb hby at_151) rfl ?_
      refine X28.ldc2Long hx hown (mvT hZ (hw _ (List.mem_of_getElem? (i := 44) rfl))) (g := (mkF m 153 #[.val (.long p1), .second, .val (.int p2), .val (.long p3), .second, .val (.int p4), .val (.long sz), .second, .val (.long wo), .second, .val (.ref b12), .val (.ref ar), .val (.ref r), .val (.long pa), .second, .val (.long (wo % (32768 : Int64))), .second, .unset, .unset, .unset, .unset, .unset, .unset, .unset] [(.long (wo % (32768 : Int64)))])) rfl (hb hby at_153) _ ?_
      refine XS.lcmp X28.here hx rfl (hb hby at_156) rfl ?_
      refine XS.ifYes X28.here hx rfl (pc0 := 157) (pc' := 164) rfl (hb hby at_157) rfl ((if0 _ _).trans (flt ((own_lcge hc) : ¬ ((lcmpW (wo % (32768 : Int64)) (32764 : Int64)) < (0 : Int32)))).2.1) (by decide) (by decide) ?_
      show Steps p.tables e below (T28.setTop (mkF m 164 #[.val (.long p1), .second, .val (.int p2), .val (.long p3), .second, .val (.int p4), .val (.long sz), .second, .val (.long wo), .second, .val (.ref b12), .val (.ref ar), .val (.ref r), .val (.long pa), .second, .val (.long (wo % (32768 : Int64))), .second, .unset, .unset, .unset, .unset, .unset, .unset, .unset] [])) _
      refine XS.iconst X28.here hx rfl (hb hby at_164) ?_
      refine XS.istore X28.here hx rfl (hb hby at_165) rfl (l' := #[.val (.long p1), .second, .val (.int p2), .val (.long p3), .second, .val (.int p4), .val (.long sz), .second, .val (.long wo), .second, .val (.ref b12), .val (.ref ar), .val (.ref r), .val (.long pa), .second, .val (.long (wo % (32768 : Int64))), .second, .val (.int (0 : Int32)), .unset, .unset, .unset, .unset, .unset, .unset]) rfl ?_
      refine XS.iload X28.here hx rfl (hb hby at_167) rfl ?_
      refine XS.ifYes X28.here hx rfl (pc0 := 169) (pc' := 181) rfl (hb hby at_169) rfl ((if0 _ _).trans (teq ((by decide) : (0 : Int32) = (0 : Int32))).1) (by decide) (by decide) ?_
      refine X28.ldc2Long hx hown (mvT hZ (hw _ (List.mem_of_getElem? (i := 45) rfl))) (g := (mkF m 181 #[.val (.long p1), .second, .val (.int p2), .val (.long p3), .second, .val (.int p4), .val (.long sz), .second, .val (.long wo), .second, .val (.ref b12), .val (.ref ar), .val (.ref r), .val (.long pa), .second, .val (.long (wo % (32768 : Int64))), .second, .val (.int (0 : Int32)), .unset, .unset, .unset, .unset, .unset, .unset] [])) rfl (hb hby at_181) _ ?_
      refine XS.lload X28.here hx rfl (hb hby at_184) rfl ?_
      show Steps p.tables e below (T28.setTop (mkF m 186 #[.val (.long p1), .second, .val (.int p2), .val (.long p3), .second, .val (.int p4), .val (.long sz), .second, .val (.long wo), .second, .val (.ref b12), .val (.ref ar), .val (.ref r), .val (.long pa), .second, .val (.long (wo % (32768 : Int64))), .second, .val (.int (0 : Int32)), .unset, .unset, .unset, .unset, .unset, .unset] [(.long pa), (.long (2 : Int64))])) _
      refine XS.lmul X28.here hx rfl (hb hby at_186) rfl ?_
      refine XS.lconst X28.here hx rfl (hb hby at_187) ?_
      refine XS.ladd X28.here hx rfl (hb hby at_188) rfl ?_
      exact kk_)
    obtain ⟨ix, h_ix⟩ : ∃ z : Int64, z = (((2 : Int64) * pa) + (1 : Int64)) := ⟨_, rfl⟩
    rw [← h_ix] at pre30
    have hix : ix.toInt = (((2 * pg + 1) : Nat) : Int) := by rw [h_ix]; exact (own_2p hpa (by omega)).2
    have hkn : (((2 * pg + 1) : Nat) : Int) < nn.toInt := by
      rw [hnn]
      rcases hq with hq | hq
      · split <;> omega
      · rw [if_pos hq]; omega
    obtain ⟨cl31, Ar31, q31, S31, M31, H31, G31⟩ := id Aa
    obtain ⟨_, _, ⟨T32, L32, k32, n32⟩, -, X32, ⟨Lc32, hQ32, l32, y32, z32⟩, st32⟩ := Jvm.LawKit.callS X28 hx (y := (⟨"java/lang/Math", "min", "(JJ)J"⟩ : MethodName)) hown (mvT hZ (hw _ (List.mem_of_getElem? (i := 46) rfl))) (mvT hZ (hw _ (List.mem_of_getElem? (i := 47) rfl))) (mvT hZ (hw _ (List.mem_of_getElem? (i := 26) rfl))) (mvT hZ (hw _ (List.mem_of_getElem? (i := 48) rfl))) (by decide) (backOf (W := 0) (rmMinL l Z a0 hw [] (32768 : Int64) (sz - (pa * (32768 : Int64))) (own_minL (32768 : Int64) (sz - (pa * (32768 : Int64)))) h13 n0 z13 rfl) hZ (hw _ (List.mem_of_getElem? (i := 48) rfl)) (hw _ (List.mem_of_getElem? (i := 26) rfl)) (by decide) (by decide)) (g := (mkF m 215 #[.val (.long p1), .second, .val (.int p2), .val (.long p3), .second, .val (.int p4), .val (.long sz), .second, .val (.long wo), .second, .val (.ref b12), .val (.ref ar), .val (.ref r), .val (.long pa), .second, .val (.long (wo % (32768 : Int64))), .second, .val (.int (0 : Int32)), .val (.long ix), .second, .unset, .unset, .unset, .unset] [(.long (sz - (pa * (32768 : Int64)))), (.long (32768 : Int64))])) rfl (by rw [hml]; rfl) (argsL := [(.long (32768 : Int64)), (.long (sz - (pa * (32768 : Int64))))]) (rest := []) (lenOf own_pd4 rfl) rfl (by show 2 * 0 + _ ≤ _; exact Nat.le_of_eq rfl) (hb hby at_215) (fun _ _ => ⟨rfl, e28, (by decide : 12 + 0 ≤ _), (by decide : 131092 + 0 ≤ _)⟩)
    dsimp only [Pt.U, Pt.locs, Pt.cells, Pt.slots] at X32 l32 y32 z32 st32 hQ32
    replace l32 := l32.symm; subst l32 y32 z32
    obtain ⟨rfl, N32q, e32⟩ := hQ32
    have N32 := Fr.app N28 N32q
    have pre33 : ∀ tt_, Steps p.tables e below (T32.setTop (mkF m 218 #[.val (.long p1), .second, .val (.int p2), .val (.long p3), .second, .val (.int p4), .val (.long sz), .second, .val (.long wo), .second, .val (.ref b12), .val (.ref ar), .val (.ref r), .val (.long pa), .second, .val (.long (wo % (32768 : Int64))), .second, .val (.int (0 : Int32)), .val (.long ix), .second, .unset, .unset, .unset, .unset] [(.long (own_minL (32768 : Int64) (sz - (pa * (32768 : Int64)))))])) tt_ → Steps p.tables e below (s₁.setTop (entryFrame m #[(.long p1), (.int p2), (.long p3), (.int p4)] maxLocals)) tt_ := fun tt_ kk_ => pre30 tt_ (by
      show Steps p.tables e below (T28.setTop (mkF m 189 #[.val (.long p1), .second, .val (.int p2), .val (.long p3), .second, .val (.int p4), .val (.long sz), .second, .val (.long wo), .second, .val (.ref b12), .val (.ref ar), .val (.ref r), .val (.long pa), .second, .val (.long (wo % (32768 : Int64))), .second, .val (.int (0 : Int32)), .unset, .unset, .unset, .unset, .unset, .unset] [(.long ix)])) _
      refine XS.lstore X28.here hx rfl (hb hby at_189) rfl (l' := #[.val (.long p1), .second, .val (.int p2), .val (.long p3), .second, .val (.int p4), .val (.long sz), .second, .val (.long wo), .second, .val (.ref b12), .val (.ref ar), .val (.ref r), .val (.long pa), .second, .val (.long (wo % (32768 : Int64))), .second, .val (.int (0 : Int32)), .val (.long ix), .second, .unset, .unset, .unset, .unset]) rfl ?_
      refine XS.lload X28.here hx rfl (hb hby at_191) rfl ?_
      refine XS.aload X28.here hx rfl (hb hby at_193) rfl rfl ?_
      show Steps p.tables e below (T28.setTop (mkF m 195 #[.val (.long p1), .second, .val (.int p2), .val (.long p3), .second, .val (.int p4), .val (.long sz), .second, .val (.long wo), .second, .val (.ref b12), .val (.ref ar), .val (.ref r), .val (.long pa), .second, .val (.long (wo % (32768 : Int64))), .second, .val (.int (0 : Int32)), .val (.long ix), .second, .unset, .unset, .unset, .unset] [(.ref ar), (.long ix)])) _
      refine X28.arraylength hx (by rw [e28]; exact Ar31.1) (State.isArrayOf_alike hZ.alike Ar31.2.1) (g := (mkF m 195 #[.val (.long p1), .second, .val (.int p2), .val (.long p3), .second, .val (.int p4), .val (.long sz), .second, .val (.long wo), .second, .val (.ref b12), .val (.ref ar), .val (.ref r), .val (.long pa), .second, .val (.long (wo % (32768 : Int64))), .second, .val (.int (0 : Int32)), .val (.long ix), .second, .unset, .unset, .unset, .unset] [(.ref ar), (.long ix)])) rfl rfl (hb hby at_195) _ ?_
      rw [len_of S31 M31]
      show Steps p.tables e below (T28.setTop (mkF m 196 #[.val (.long p1), .second, .val (.int p2), .val (.long p3), .second, .val (.int p4), .val (.long sz), .second, .val (.long wo), .second, .val (.ref b12), .val (.ref ar), .val (.ref r), .val (.long pa), .second, .val (.long (wo % (32768 : Int64))), .second, .val (.int (0 : Int32)), .val (.long ix), .second, .unset, .unset, .unset, .unset] [(.int nn), (.long ix)])) _
      refine XS.i2l X28.here hx rfl (hb hby at_196) rfl ?_
      refine XS.lcmp X28.here hx rfl (hb hby at_197) rfl ?_
      refine XS.ifYes X28.here hx rfl (pc0 := 198) (pc' := 203) rfl (hb hby at_198) rfl ((if0 _ _).trans (tlt ((own_lclt (own_ltL hix hkn)) : (lcmpW ix (nn.toInt64)) < (0 : Int32))).1) (by decide) (by decide) ?_
      refine X28.ldc2Long hx hown (mvT hZ (hw _ (List.mem_of_getElem? (i := 43) rfl))) (g := (mkF m 203 #[.val (.long p1), .second, .val (.int p2), .val (.long p3), .second, .val (.int p4), .val (.long sz), .second, .val (.long wo), .second, .val (.ref b12), .val (.ref ar), .val (.ref r), .val (.long pa), .second, .val (.long (wo % (32768 : Int64))), .second, .val (.int (0 : Int32)), .val (.long ix), .second, .unset, .unset, .unset, .unset] [])) rfl (hb hby at_203) _ ?_
      refine XS.lload X28.here hx rfl (hb hby at_206) rfl ?_
      show Steps p.tables e below (T28.setTop (mkF m 208 #[.val (.long p1), .second, .val (.int p2), .val (.long p3), .second, .val (.int p4), .val (.long sz), .second, .val (.long wo), .second, .val (.ref b12), .val (.ref ar), .val (.ref r), .val (.long pa), .second, .val (.long (wo % (32768 : Int64))), .second, .val (.int (0 : Int32)), .val (.long ix), .second, .unset, .unset, .unset, .unset] [(.long sz), (.long (32768 : Int64))])) _
      refine XS.lload X28.here hx rfl (hb hby at_208) rfl ?_
      refine X28.ldc2Long hx hown (mvT hZ (hw _ (List.mem_of_getElem? (i := 43) rfl))) (g := (mkF m 210 #[.val (.long p1), .second, .val (.int p2), .val (.long p3), .second, .val (.int p4), .val (.long sz), .second, .val (.long wo), .second, .val (.ref b12), .val (.ref ar), .val (.ref r), .val (.long pa), .second, .val (.long (wo % (32768 : Int64))), .second, .val (.int (0 : Int32)), .val (.long ix), .second, .unset, .unset, .unset, .unset] [(.long pa), (.long sz), (.long (32768 : Int64))])) rfl (hb hby at_210) _ ?_
      refine XS.lmul X28.here hx rfl (hb hby at_213) rfl ?_
      refine XS.lsub X28.here hx rfl (hb hby at_214) rfl ?_
      show Steps p.tables e below (T28.setTop (mkF m 215 #[.val (.long p1), .second, .val (.int p2), .val (.long p3), .second, .val (.int p4), .val (.long sz), .second, .val (.long wo), .second, .val (.ref b12), .val (.ref ar), .val (.ref r), .val (.long pa), .second, .val (.long (wo % (32768 : Int64))), .second, .val (.int (0 : Int32)), .val (.long ix), .second, .unset, .unset, .unset, .unset] [(.long (sz - (pa * (32768 : Int64)))), (.long (32768 : Int64))])) _
      refine st32 _ ?_
      exact kk_)
    obtain ⟨pw, h_pw⟩ : ∃ z : Int64, z = (own_minL (32768 : Int64) (sz - (pa * (32768 : Int64)))) := ⟨_, rfl⟩
    rw [← h_pw] at pre33
    have hpw : pw.toInt = if pg + 1 < pn then 32768 else lw.toInt := by rw [h_pw]; exact own_pw hsz hsq hlb hpn4 hpn hpa
    have pre34 : ∀ tt_, Steps p.tables e below (T32.setTop (mkF m 242 #[.val (.long p1), .second, .val (.int p2), .val (.long p3), .second, .val (.int p4), .val (.long sz), .second, .val (.long wo), .second, .val (.ref b12), .val (.ref ar), .val (.ref r), .val (.long pa), .second, .val (.long (wo % (32768 : Int64))), .second, .val (.int (0 : Int32)), .val (.long ix), .second, .val (.long pw), .second, .unset, .unset] [(.long (pw - (32764 : Int64)))])) tt_ → Steps p.tables e below (s₁.setTop (entryFrame m #[(.long p1), (.int p2), (.long p3), (.int p4)] maxLocals)) tt_ := fun tt_ kk_ => pre33 tt_ (by
      show Steps p.tables e below (T32.setTop (mkF m 218 #[.val (.long p1), .second, .val (.int p2), .val (.long p3), .second, .val (.int p4), .val (.long sz), .second, .val (.long wo), .second, .val (.ref b12), .val (.ref ar), .val (.ref r), .val (.long pa), .second, .val (.long (wo % (32768 : Int64))), .second, .val (.int (0 : Int32)), .val (.long ix), .second, .unset, .unset, .unset, .unset] [(.long pw)])) _
      refine XS.lstore X32.here hx rfl (hb hby at_218) rfl (l' := #[.val (.long p1), .second, .val (.int p2), .val (.long p3), .second, .val (.int p4), .val (.long sz), .second, .val (.long wo), .second, .val (.ref b12), .val (.ref ar), .val (.ref r), .val (.long pa), .second, .val (.long (wo % (32768 : Int64))), .second, .val (.int (0 : Int32)), .val (.long ix), .second, .val (.long pw), .second, .unset, .unset]) rfl ?_
      refine XS.iload X32.here hx rfl (hb hby at_220) rfl ?_
      show Steps p.tables e below (T32.setTop (mkF m 222 #[.val (.long p1), .second, .val (.int p2), .val (.long p3), .second, .val (.int p4), .val (.long sz), .second, .val (.long wo), .second, .val (.ref b12), .val (.ref ar), .val (.ref r), .val (.long pa), .second, .val (.long (wo % (32768 : Int64))), .second, .val (.int (0 : Int32)), .val (.long ix), .second, .val (.long pw), .second, .unset, .unset] [(.int (0 : Int32))])) _
      refine XS.ifYes X32.here hx rfl (pc0 := 222) (pc' := 236) rfl (hb hby at_222) rfl ((if0 _ _).trans (teq ((by decide) : (0 : Int32) = (0 : Int32))).1) (by decide) (by decide) ?_
      refine XS.lload X32.here hx rfl (hb hby at_236) rfl ?_
      refine X32.ldc2Long hx hown (mvT hZ (hw _ (List.mem_of_getElem? (i := 44) rfl))) (g := (mkF m 238 #[.val (.long p1), .second, .val (.int p2), .val (.long p3), .second, .val (.int p4), .val (.long sz), .second, .val (.long wo), .second, .val (.ref b12), .val (.ref ar), .val (.ref r), .val (.long pa), .second, .val (.long (wo % (32768 : Int64))), .second, .val (.int (0 : Int32)), .val (.long ix), .second, .val (.long pw), .second, .unset, .unset] [(.long pw)])) rfl (hb hby at_238) _ ?_
      refine XS.lsub X32.here hx rfl (hb hby at_241) rfl ?_
      exact kk_)
    obtain ⟨ex, h_ex⟩ : ∃ z : Int64, z = (pw - (32764 : Int64)) := ⟨_, rfl⟩
    rw [← h_ex] at pre34
    have hex := own_expT hlb hpw hq
    rw [← h_ex] at hex
    have hi32 : ix.toInt32 = Int32.ofNat (2 * pg + 1) := own_of64 hix (by omega)
    obtain ⟨cl35, Ar35, q35, S35, M35, H35, G35⟩ := id Aa
    have hin35 : ¬ ((ix.toInt32) < 0 ∨ cl35.slots.size ≤ ((ix.toInt32)).toNatClampNeg) := inb_of S35 (hi32 ▸ own_inbN hkn (by omega))
    have hat35 : cl35.slots[((ix.toInt32)).toNatClampNeg]? = some (.ref r) := Has.at H35 hin35 (by rw [hi32, own_nat (by omega)]; exact hr2)
    obtain ⟨cl36, Ar36, S36, M36⟩ := id hL
    have pre37 : ∀ tt_, Steps p.tables e below (T32.setTop (mkF m 277 #[.val (.long p1), .second, .val (.int p2), .val (.long p3), .second, .val (.int p4), .val (.long sz), .second, .val (.long wo), .second, .val (.ref b12), .val (.ref ar), .val (.ref r), .val (.long pa), .second, .val (.long (wo % (32768 : Int64))), .second, .val (.int (0 : Int32)), .val (.long ix), .second, .val (.long pw), .second, .val (.long ex), .second] [(.int (1 : Int32))])) tt_ → Steps p.tables e below (s₁.setTop (entryFrame m #[(.long p1), (.int p2), (.long p3), (.int p4)] maxLocals)) tt_ := fun tt_ kk_ => pre34 tt_ (by
      show Steps p.tables e below (T32.setTop (mkF m 242 #[.val (.long p1), .second, .val (.int p2), .val (.long p3), .second, .val (.int p4), .val (.long sz), .second, .val (.long wo), .second, .val (.ref b12), .val (.ref ar), .val (.ref r), .val (.long pa), .second, .val (.long (wo % (32768 : Int64))), .second, .val (.int (0 : Int32)), .val (.long ix), .second, .val (.long pw), .second, .unset, .unset] [(.long ex)])) _
      refine XS.lstore X32.here hx rfl (hb hby at_242) rfl (l' := #[.val (.long p1), .second, .val (.int p2), .val (.long p3), .second, .val (.int p4), .val (.long sz), .second, .val (.long wo), .second, .val (.ref b12), .val (.ref ar), .val (.ref r), .val (.long pa), .second, .val (.long (wo % (32768 : Int64))), .second, .val (.int (0 : Int32)), .val (.long ix), .second, .val (.long pw), .second, .val (.long ex), .second]) rfl ?_
      refine XS.aload X32.here hx rfl (hb hby at_244) rfl rfl ?_
      show Steps p.tables e below (T32.setTop (mkF m 246 #[.val (.long p1), .second, .val (.int p2), .val (.long p3), .second, .val (.int p4), .val (.long sz), .second, .val (.long wo), .second, .val (.ref b12), .val (.ref ar), .val (.ref r), .val (.long pa), .second, .val (.long (wo % (32768 : Int64))), .second, .val (.int (0 : Int32)), .val (.long ix), .second, .val (.long pw), .second, .val (.long ex), .second] [(.ref r)])) _
      refine XS.aload X32.here hx rfl (hb hby at_246) rfl rfl ?_
      refine XS.lload X32.here hx rfl (hb hby at_248) rfl ?_
      refine XS.l2i X32.here hx rfl (hb hby at_250) rfl ?_
      refine X32.aaload hx (j := (ix.toInt32)) (v := (.ref r)) (by rw [e32]; exact Ar35.1) (State.isArrayOf_alike hZ.alike Ar35.2.1) rfl Ar35.2.2 hin35 hat35 (g := (mkF m 251 #[.val (.long p1), .second, .val (.int p2), .val (.long p3), .second, .val (.int p4), .val (.long sz), .second, .val (.long wo), .second, .val (.ref b12), .val (.ref ar), .val (.ref r), .val (.long pa), .second, .val (.long (wo % (32768 : Int64))), .second, .val (.int (0 : Int32)), .val (.long ix), .second, .val (.long pw), .second, .val (.long ex), .second] [(.int (ix.toInt32)), (.ref ar), (.ref r)])) rfl rfl (hb hby at_251) _ ?_
      refine Jvm.RoadKit.acmp (g := (mkF m 252 #[.val (.long p1), .second, .val (.int p2), .val (.long p3), .second, .val (.int p4), .val (.long sz), .second, .val (.long wo), .second, .val (.ref b12), .val (.ref ar), .val (.ref r), .val (.long pa), .second, .val (.long (wo % (32768 : Int64))), .second, .val (.int (0 : Int32)), .val (.long ix), .second, .val (.long pw), .second, .val (.long ex), .second] [(.ref r), (.ref r)])) X32 hx rfl rfl rfl (pc0 := 252) (pc' := 255) (same := true) rfl (hb hby at_252) rfl (decide_eq_true (rfl)) (by decide) (by decide) ?_
      refine XS.aload X32.here hx rfl (hb hby at_255) rfl rfl ?_
      show Steps p.tables e below (T32.setTop (mkF m 257 #[.val (.long p1), .second, .val (.int p2), .val (.long p3), .second, .val (.int p4), .val (.long sz), .second, .val (.long wo), .second, .val (.ref b12), .val (.ref ar), .val (.ref r), .val (.long pa), .second, .val (.long (wo % (32768 : Int64))), .second, .val (.int (0 : Int32)), .val (.long ix), .second, .val (.long pw), .second, .val (.long ex), .second] [(.ref r)])) _
      refine X32.arraylength hx (by rw [e32]; exact Ar36.1) (State.isArrayOf_alike hZ.alike Ar36.2.1) (g := (mkF m 257 #[.val (.long p1), .second, .val (.int p2), .val (.long p3), .second, .val (.int p4), .val (.long sz), .second, .val (.long wo), .second, .val (.ref b12), .val (.ref ar), .val (.ref r), .val (.long pa), .second, .val (.long (wo % (32768 : Int64))), .second, .val (.int (0 : Int32)), .val (.long ix), .second, .val (.long pw), .second, .val (.long ex), .second] [(.ref r)])) rfl rfl (hb hby at_257) _ ?_
      rw [len_of S36 M36]
      show Steps p.tables e below (T32.setTop (mkF m 258 #[.val (.long p1), .second, .val (.int p2), .val (.long p3), .second, .val (.int p4), .val (.long sz), .second, .val (.long wo), .second, .val (.ref b12), .val (.ref ar), .val (.ref r), .val (.long pa), .second, .val (.long (wo % (32768 : Int64))), .second, .val (.int (0 : Int32)), .val (.long ix), .second, .val (.long pw), .second, .val (.long ex), .second] [(.int (own_lenT pn lw pg))])) _
      refine XS.i2l X32.here hx rfl (hb hby at_258) rfl ?_
      refine XS.lload X32.here hx rfl (hb hby at_259) rfl ?_
      refine XS.lcmp X32.here hx rfl (hb hby at_261) rfl ?_
      refine XS.ifNo X32.here hx rfl (hb hby at_262) rfl ((if0 _ _).trans (teq ((own_lc0 hex.1) : (lcmpW ((own_lenT pn lw pg).toInt64) ex) = (0 : Int32))).2) ?_
      refine XS.lload X32.here hx rfl (hb hby at_265) rfl ?_
      show Steps p.tables e below (T32.setTop (mkF m 267 #[.val (.long p1), .second, .val (.int p2), .val (.long p3), .second, .val (.int p4), .val (.long sz), .second, .val (.long wo), .second, .val (.ref b12), .val (.ref ar), .val (.ref r), .val (.long pa), .second, .val (.long (wo % (32768 : Int64))), .second, .val (.int (0 : Int32)), .val (.long ix), .second, .val (.long pw), .second, .val (.long ex), .second] [(.long ex)])) _
      refine XS.lconst X32.here hx rfl (hb hby at_267) ?_
      refine XS.lcmp X32.here hx rfl (hb hby at_268) rfl ?_
      refine XS.ifNo X32.here hx rfl (hb hby at_269) rfl ((if0 _ _).trans (tlt ((own_lcgt hex.2) : (0 : Int32) < (lcmpW ex (0 : Int64)))).2.2.2) ?_
      refine XS.iconst X32.here hx rfl (hb hby at_272) ?_
      refine XS.goto X32.here hx rfl (pc0 := 273) (pc' := 277) rfl (hb hby at_273) (by decide) (by decide) ?_
      exact kk_)
    obtain ⟨fs, hr, hrun, hended, hW, hsame⟩ := X32.leave (v := some (.int (nar .boolean (1 : Int32)))) (fun h => by rw [Bd.returns] at h; cases h)
    refine ⟨_, _, pre37 _ ?_, hrun, hended, _, _, rfl, ?_, ⟨_, rfl⟩, hW, hsame.mono (by decide) (by decide)⟩
    · show Steps p.tables e below (T32.setTop (mkF m 277 #[.val (.long p1), .second, .val (.int p2), .val (.long p3), .second, .val (.int p4), .val (.long sz), .second, .val (.long wo), .second, .val (.ref b12), .val (.ref ar), .val (.ref r), .val (.long pa), .second, .val (.long (wo % (32768 : Int64))), .second, .val (.int (0 : Int32)), .val (.long ix), .second, .val (.long pw), .second, .val (.long ex), .second] [(.int (1 : Int32))])) _
      exact retN X32 hx (t := .boolean) Bd.returns (by simp) (hb hby at_277) hr
    · show QL n0 _ T32.heap _
      rw [e32]
      exact ⟨rfl, N32⟩
set_option maxRecDepth 65536 in
set_option maxHeartbeats 40000000 in
theorem comes_1 {Post : Tables → Env → Array Value → State → Outcome → State → Prop} (hpost : ∀ tb e args s v u, (limb_1_1.after args s (.returned v) u = true ∧ limb_1_2.after args s (.returned v) u = true ∧ True) → FrameEnd s (.returned v) u (Jvm.fieldLocs frame_1_writes args s ++ Jvm.arrayLocs frame_1_arrays args s ++ Jvm.staticLocs frame_1_statics s) 32 196736 → Post tb e args s (.returned v) u) :
    ArmFor flags0 classFile x code maxLocals ret World_1 tables_1 room_1 Calls_1 rest_1 Pre_1 Post := by
  intro l hfl _ _ p e ha hc hk s m args below hf hA hF happ hP
  obtain ⟨hcalls, hrest, hpre⟩ := hP
  obtain ⟨-, -, -, hnamed, -, -, -, hat⟩ := (Spec.applies_iff hf).mp happ
  obtain ⟨hg, hn⟩ := and_e (Cond.before_iff.mp (show (Jvm.Cond.and given_1 narrow_1).before args s = true from hpre))
  obtain ⟨gc, gr0⟩ := and_e hg
  obtain ⟨ga0, gr1⟩ := and_e gr0
  obtain ⟨ga1, gr2⟩ := and_e gr1
  obtain ⟨ga2, gr3⟩ := and_e gr2
  have ga3 := gr3
  obtain ⟨w0, w1, w2, w3, rfl⟩ : ∃ w0 w1 w2 w3 : Value, args = #[w0, w1, w2, w3] := by
    have hs : args.size = 4 := by simpa [Cond.value, given_1] using gc
    obtain ⟨L⟩ := args
    match L, hs with
    | [w0, w1, w2, w3], _ => exact ⟨w0, w1, w2, w3, rfl⟩
  have hw := fun d (hd : d ∈ tables_1) => atoms_spec (ws := Jvm.Cond.code x code maxLocals ret :: tables_1) hat d (List.mem_cons_of_mem _ hd)
  have hfit : Fit s := fun {y c} hc i hi => by
    obtain ⟨ha, rfl⟩ := Array.getElem?_eq_some_iff.mp hc
    have q := List.all_eq_true.mp ((Array.all_eq_true_iff_forall_mem.mp hF) _ (Array.getElem_mem ha)) i (List.mem_range.mpr hi)
    simpa [Array.getElem?_eq_getElem hi] using q
  obtain ⟨i0, ei0⟩ := isL_v ga0
  obtain rfl : w0 = (.long i0) := Option.some.inj ei0
  obtain ⟨i1, ei1⟩ := is_v ga1
  obtain rfl : w1 = (.int i1) := Option.some.inj ei1
  obtain ⟨i2, ei2⟩ := isL_v ga2
  obtain rfl : w2 = (.long i2) := Option.some.inj ei2
  obtain ⟨i3, ei3⟩ := is_v ga3
  obtain rfl : w3 = (.int i3) := Option.some.inj ei3
  have c0 := hn
  have S_PAGE_SHIFT := Sta.start (own_intv c0) (Or.inr ⟨(hw _ (List.mem_of_getElem? (i := 4) rfl)), (hw _ (List.mem_of_getElem? (i := 13) rfl))⟩)
  obtain ⟨n, o, h1, h2, h3, _, L, rfl, ⟨rfl, N⟩, hq⟩ := rm0 l s _ hw tables_1 i0 i1 i2 i3  s.heap s.heap.size (Nat.le_refl _) S_PAGE_SHIFT p e ha hc hk s m _ below hf ((Spec.applies_iff_loose hf).mp happ).1 ⟨rfl, State.Warmed39.refl s, rfl⟩ trivial
  refine ⟨n, _, h1, h2, h3, hpost _ _ _ _ _ _ ⟨Cond.after_iff.mpr rfl, Cond.after_iff.mpr (eq_i res_at (Term.int_eval (1)) rfl), trivial⟩ ⟨hq.1, hq.2.1, (hq.2.2.sift fun y hy => Or.inr (N y hy)).mono (by decide) (by decide)⟩⟩
theorem main_1_1 : Claimed_1_1 := comes_1 fun _ _ _ _ _ _ h hF => ⟨h.1, hF⟩
theorem main_1_2 : Claimed_1_2 := comes_1 fun _ _ _ _ _ _ h hF => ⟨h.2.1, hF⟩
end Jvm.Pilot.@@N@@
namespace Jvm.Pilot.@@N@@
open Jvm Jvm.ClassFile Sem Op Lib Jvm.Free Jvm.Stand Jvm.Pilot.@@N@@.Jvm.D
/-! MADE BY PROGRAM (witnessworld.py) out of the Statement's table words and the real class files: 12 classes; the members and pool entries that the words name. The judged class is class 1, her method 1. -/
namespace start1
open Jvm.ClassFile
def u (s : String) : CpInfo := .utf8 (stringToUtf16 s)
/-- a pool by its gaps: so many unusable entries, then the entry; so many at the end -/
def gap : Nat → List CpInfo → List CpInfo
  | 0, r => r
  | n + 1, r => .unusable :: gap n r
def poolList (es : List (Nat × CpInfo)) (last : Nat) : List CpInfo := es.foldr (fun e r => gap e.1 (e.2 :: r)) (gap last [])
def pool (es : List (Nat × CpInfo)) (last : Nat) : Array CpInfo := ⟨poolList es last⟩
def fileOf (pool : Array CpInfo) (this : Nat) (attrs : Array Attribute := #[]) (ms : Array MethodInfo := #[]) (fl : Nat := 33) (sup : Nat := 0) (ifs : Array Nat := #[]) (fds : Array FieldInfo := #[]) : ClassFile where
  minorVersion := 0
  majorVersion := 65
  constantPool := pool
  accessFlags := fl
  thisClass := this
  superClass := sup
  interfaces := ifs
  fields := fds
  methods := ms
  attributes := attrs
def plain (name : String) (sup : Option ClassId) : Class where
  name := name
  kind := .ordinary
  loader := none
  accessFlags := 33
  super := sup
  interfaces := #[]
  cf := none
  fields := #[]
  methods := #[]
  instanceTypes := #[]
  staticTypes := #[]
  resolved := #[]
  callSites := []
  init := .initialized
  statics := none
  mirror := none

def pool0 : Array CpInfo := pool [(5, u "<init>"), (0, u "()V"), (1, .class_ 10), (1, u "java/lang/Object")] 113

def k0c0 : Code := { maxStack := 0, maxLocals := 1, code := object_method_1_code, exceptionTable := #[], attributes := #[] }
def k0m0 : Method := { name := "<init>", desc := "()V", sig := { parameters := [], returnType := none }, accessFlags := 1, code := some k0c0 }
/-- java/lang/Object -/
def k0 : Class := { plain "java/lang/Object" none with
  accessFlags := 33
  interfaces := #[]
  cf := some (fileOf pool0 8 #[] #[{ accessFlags := 1, nameIndex := 5, descriptorIndex := 6, attributes := #[] }] 33 0 #[] #[])
  fields := #[]
  methods := #[k0m0]
  instanceTypes := #[]
  staticTypes := #[]
  resolved := Array.replicate 124 none
  statics := none }

def pool1 : Array CpInfo := pool [(2, .class_ 4), (1, u "java/lang/Object"), (0, u "<init>"), (0, u "()V"), (0, .long 32768), (1, .long 32756), (3, .long 9223372036854775807), (1, .long 98304), (1, .integer 2147483647), (0, .long 15), (1, .class_ 21), (0, u "com/example/elderflower/elderflower/PagedWords"), (0, .methodref 20 23), (0, .nameAndType 5 24), (0, u "(J)V"), (0, .methodref 20 26), (0, .nameAndType 27 28), (0, u "arrays"), (0, u "()[[J"), (0, .methodref 20 30), (0, .nameAndType 31 32), (0, u "arrayOf"), (0, u "(J)[J"), (0, .long 32764), (1, .long 2), (1, .methodref 38 39), (0, .class_ 40), (0, .nameAndType 41 42), (0, u "java/lang/Math"), (0, u "min"), (0, u "(JJ)J"), (0, .class_ 44), (0, u "com/example/elderflower/elderflower/PagedWordsArrayOfPinLaw"), (2, u "law"), (0, u "(JIJI)Z")] 7

def k1m0 : Method := { name := "<init>", desc := "()V", sig := { parameters := [], returnType := none }, accessFlags := 1, code := none }
def k1c1 : Code := { maxStack := 8, maxLocals := 24, code := code, exceptionTable := #[], attributes := #[] }
def k1m1 : Method := { name := "law", desc := "(JIJI)Z", sig := { parameters := [.long, .int, .long, .int], returnType := some .boolean }, accessFlags := 9, code := some k1c1 }
/-- com/example/elderflower/elderflower/PagedWordsArrayOfPinLaw -/
def k1 : Class := { plain "com/example/elderflower/elderflower/PagedWordsArrayOfPinLaw" (some 0) with
  accessFlags := 49
  interfaces := #[]
  cf := some (fileOf pool1 43 #[] #[{ accessFlags := 1, nameIndex := 5, descriptorIndex := 6, attributes := #[] }, { accessFlags := 9, nameIndex := 47, descriptorIndex := 48, attributes := #[] }] 49 2 #[] #[])
  fields := #[]
  methods := #[k1m0, k1m1]
  instanceTypes := #[]
  staticTypes := #[]
  resolved := Array.replicate 56 none
  statics := none }

def pool2 : Array CpInfo := pool [(1, .class_ 2), (0, u "com/example/elderflower/elderflower/PagedWords"), (0, .methodref 4 5), (0, .class_ 6), (0, .nameAndType 7 8), (0, u "java/lang/Object"), (0, u "<init>"), (0, u "()V"), (0, .long 32768), (1, .fieldref 1 12), (0, .nameAndType 13 14), (0, u "PAGE_SHIFT"), (0, u "I"), (0, .fieldref 1 16), (0, .nameAndType 17 18), (0, u "size"), (0, u "J"), (0, .class_ 20), (0, u "[J"), (0, .fieldref 1 22), (0, .nameAndType 23 24), (0, u "heads"), (0, u "[[J"), (0, .fieldref 1 26), (0, .nameAndType 27 24), (0, u "tails"), (0, .fieldref 1 29), (0, .nameAndType 30 24), (0, u "arrays"), (0, .integer 32768), (0, .methodref 33 34), (0, .class_ 35), (0, .nameAndType 36 37), (0, u "java/lang/Math"), (0, u "min"), (0, u "(II)I"), (0, .methodref 33 39), (0, .nameAndType 40 37), (0, u "max"), (2, u "arrayOf"), (0, u "(J)[J"), (10, u "PAGE_WORDS"), (1, u "TAIL_WORDS"), (1, u "HEAD_WORDS"), (1, u "(J)V"), (4, u "()[[J")] 6

def k2c0 : Code := { maxStack := 5, maxLocals := 7, code := prog_35_method_1_code, exceptionTable := #[], attributes := #[] }
def k2m0 : Method := { name := "<init>", desc := "(J)V", sig := { parameters := [.long], returnType := none }, accessFlags := 0, code := some k2c0 }
def k2c1 : Code := { maxStack := 1, maxLocals := 1, code := prog_35_method_3_code, exceptionTable := #[], attributes := #[] }
def k2m1 : Method := { name := "arrays", desc := "()[[J", sig := { parameters := [], returnType := some (.array (.array .long)) }, accessFlags := 0, code := some k2c1 }
def k2c2 : Code := { maxStack := 3, maxLocals := 5, code := prog_35_method_5_code, exceptionTable := #[], attributes := #[] }
def k2m2 : Method := { name := "arrayOf", desc := "(J)[J", sig := { parameters := [.long], returnType := some (.array .long) }, accessFlags := 0, code := some k2c2 }
/-- com/example/elderflower/elderflower/PagedWords -/
def k2 : Class := { plain "com/example/elderflower/elderflower/PagedWords" (some 0) with
  accessFlags := 32
  interfaces := #[]
  cf := some (fileOf pool2 1 #[] #[{ accessFlags := 0, nameIndex := 7, descriptorIndex := 61, attributes := #[] }, { accessFlags := 0, nameIndex := 30, descriptorIndex := 66, attributes := #[] }, { accessFlags := 0, nameIndex := 43, descriptorIndex := 44, attributes := #[] }] 32 4 #[] #[{ accessFlags := 24, nameIndex := 55, descriptorIndex := 14, attributes := #[] }, { accessFlags := 24, nameIndex := 57, descriptorIndex := 14, attributes := #[] }, { accessFlags := 26, nameIndex := 13, descriptorIndex := 14, attributes := #[] }, { accessFlags := 26, nameIndex := 59, descriptorIndex := 14, attributes := #[] }, { accessFlags := 18, nameIndex := 17, descriptorIndex := 18, attributes := #[] }, { accessFlags := 18, nameIndex := 23, descriptorIndex := 24, attributes := #[] }, { accessFlags := 18, nameIndex := 27, descriptorIndex := 24, attributes := #[] }, { accessFlags := 18, nameIndex := 30, descriptorIndex := 24, attributes := #[] }])
  fields := #[{ name := "PAGE_WORDS", type := .int, accessFlags := 24, slot := 0, constantValue := 0 }, { name := "TAIL_WORDS", type := .int, accessFlags := 24, slot := 1, constantValue := 0 }, { name := "PAGE_SHIFT", type := .int, accessFlags := 26, slot := 2, constantValue := 0 }, { name := "HEAD_WORDS", type := .int, accessFlags := 26, slot := 3, constantValue := 0 }, { name := "size", type := .long, accessFlags := 18, slot := 0, constantValue := 0 }, { name := "heads", type := (.array (.array .long)), accessFlags := 18, slot := 1, constantValue := 0 }, { name := "tails", type := (.array (.array .long)), accessFlags := 18, slot := 2, constantValue := 0 }, { name := "arrays", type := (.array (.array .long)), accessFlags := 18, slot := 3, constantValue := 0 }]
  methods := #[k2m0, k2m1, k2m2]
  instanceTypes := #[.long, (.array (.array .long)), (.array (.array .long)), (.array (.array .long))]
  staticTypes := #[.int, .int, .int, .int]
  resolved := Array.replicate 73 none
  statics := some 0 }

def pool3 : Array CpInfo := pool [(1, .class_ 2), (0, u "java/lang/Math"), (1, .class_ 6), (1, u "java/lang/Object"), (0, u "<init>"), (0, u "()V"), (89, .class_ 100), (1, u "java/lang/Math$RandomNumberGeneratorHolder"), (20, u "(JJ)J"), (50, u "negativeZeroFloatBits"), (0, u "J"), (2, u "negativeZeroDoubleBits"), (21, u "max"), (2, u "min"), (43, u "$assertionsDisabled"), (0, u "Z"), (88, u "(II)I"), (2, u "twoToTheDoubleScaleDown"), (0, u "D"), (4, u "twoToTheDoubleScaleUp"), (9, u "E"), (3, u "PI"), (2, u "TAU"), (2, u "DEGREES_TO_RADIANS"), (0, u "RADIANS_TO_DEGREES")] 94

def k3m0 : Method := { name := "<init>", desc := "()V", sig := { parameters := [], returnType := none }, accessFlags := 2, code := none }
def k3c1 : Code := { maxStack := 2, maxLocals := 2, code := jdk_29_method_65_code, exceptionTable := #[], attributes := #[] }
def k3m1 : Method := { name := "max", desc := "(II)I", sig := { parameters := [.int, .int], returnType := some .int }, accessFlags := 9, code := some k3c1 }
def k3c2 : Code := { maxStack := 2, maxLocals := 2, code := jdk_29_method_69_code, exceptionTable := #[], attributes := #[] }
def k3m2 : Method := { name := "min", desc := "(II)I", sig := { parameters := [.int, .int], returnType := some .int }, accessFlags := 9, code := some k3c2 }
def k3c3 : Code := { maxStack := 4, maxLocals := 4, code := jdk_29_method_70_code, exceptionTable := #[], attributes := #[] }
def k3m3 : Method := { name := "min", desc := "(JJ)J", sig := { parameters := [.long, .long], returnType := some .long }, accessFlags := 9, code := some k3c3 }
/-- java/lang/Math -/
def k3 : Class := { plain "java/lang/Math" (some 0) with
  accessFlags := 49
  interfaces := #[]
  cf := some (fileOf pool3 1 #[.nestMembers #[98]] #[{ accessFlags := 2, nameIndex := 7, descriptorIndex := 8, attributes := #[] }, { accessFlags := 9, nameIndex := 198, descriptorIndex := 335, attributes := #[] }, { accessFlags := 9, nameIndex := 201, descriptorIndex := 335, attributes := #[] }, { accessFlags := 9, nameIndex := 201, descriptorIndex := 121, attributes := #[] }] 49 4 #[] #[{ accessFlags := 25, nameIndex := 354, descriptorIndex := 339, attributes := #[] }, { accessFlags := 25, nameIndex := 358, descriptorIndex := 339, attributes := #[] }, { accessFlags := 25, nameIndex := 361, descriptorIndex := 339, attributes := #[] }, { accessFlags := 26, nameIndex := 364, descriptorIndex := 339, attributes := #[] }, { accessFlags := 26, nameIndex := 365, descriptorIndex := 339, attributes := #[] }, { accessFlags := 26, nameIndex := 172, descriptorIndex := 173, attributes := #[] }, { accessFlags := 26, nameIndex := 176, descriptorIndex := 173, attributes := #[] }, { accessFlags := 8, nameIndex := 344, descriptorIndex := 339, attributes := #[] }, { accessFlags := 8, nameIndex := 338, descriptorIndex := 339, attributes := #[] }, { accessFlags := 4120, nameIndex := 245, descriptorIndex := 246, attributes := #[] }])
  fields := #[{ name := "E", type := .double, accessFlags := 25, slot := 0, constantValue := 0 }, { name := "PI", type := .double, accessFlags := 25, slot := 1, constantValue := 0 }, { name := "TAU", type := .double, accessFlags := 25, slot := 2, constantValue := 0 }, { name := "DEGREES_TO_RADIANS", type := .double, accessFlags := 26, slot := 3, constantValue := 0 }, { name := "RADIANS_TO_DEGREES", type := .double, accessFlags := 26, slot := 4, constantValue := 0 }, { name := "negativeZeroFloatBits", type := .long, accessFlags := 26, slot := 5, constantValue := 0 }, { name := "negativeZeroDoubleBits", type := .long, accessFlags := 26, slot := 6, constantValue := 0 }, { name := "twoToTheDoubleScaleUp", type := .double, accessFlags := 8, slot := 7, constantValue := 0 }, { name := "twoToTheDoubleScaleDown", type := .double, accessFlags := 8, slot := 8, constantValue := 0 }, { name := "$assertionsDisabled", type := .boolean, accessFlags := 4120, slot := 9, constantValue := 0 }]
  methods := #[k3m0, k3m1, k3m2, k3m3]
  instanceTypes := #[]
  staticTypes := #[.double, .double, .double, .double, .double, .long, .long, .double, .double, .boolean]
  resolved := Array.replicate 460 none
  statics := none }

def pool4 : Array CpInfo := pool [(1, u "java/lang/Cloneable"), (0, .class_ 1), (0, u "java/lang/Object"), (0, .class_ 3)] 3

/-- java/lang/Cloneable -/
def k4 : Class := { plain "java/lang/Cloneable" (some 0) with
  accessFlags := 1537
  interfaces := #[]
  cf := some (fileOf pool4 2 #[] #[] 1537 4 #[] #[])
  fields := #[]
  methods := #[]
  instanceTypes := #[]
  staticTypes := #[]
  resolved := Array.replicate 8 none
  statics := none }

def pool5 : Array CpInfo := pool [(1, u "java/io/Serializable"), (0, .class_ 1), (0, u "java/lang/Object"), (0, .class_ 3)] 3

/-- java/io/Serializable -/
def k5 : Class := { plain "java/io/Serializable" (some 0) with
  accessFlags := 1537
  interfaces := #[]
  cf := some (fileOf pool5 2 #[] #[] 1537 4 #[] #[])
  fields := #[]
  methods := #[]
  instanceTypes := #[]
  staticTypes := #[]
  resolved := Array.replicate 8 none
  statics := none }

/-- the primitive byte -/
def k6 : Class := { plain "byte" none with kind := .primitive 'B', accessFlags := 0x411 }
/-- [B -/
def k7 : Class := { plain "[B" (some 0) with kind := .array 6 .byte, interfaces := #[4, 5], accessFlags := 1041 }

/-- the primitive int -/
def k8 : Class := { plain "int" none with kind := .primitive 'I', accessFlags := 0x411 }
/-- [I -/
def k9 : Class := { plain "[I" (some 0) with kind := .array 8 .int, interfaces := #[4, 5], accessFlags := 1041 }

/-- the primitive long -/
def k10 : Class := { plain "long" none with kind := .primitive 'J', accessFlags := 0x411 }
/-- [J -/
def k11 : Class := { plain "[J" (some 0) with kind := .array 10 .long, interfaces := #[4, 5], accessFlags := 1041 }

def heap : Heap := #[{ cls := 2, slots := #[.int 0, .int 0, .int 15, .int 0], vm := .statics 2 }]
def k12 : Class := { plain "[[J" (some 0) with kind := .array 11 (.array .long), interfaces := #[4, 5], accessFlags := 1041 }
def classes : Array Class := #[k0, k1, k2, k3, k4, k5, k6, k7, k8, k9, k10, k11, k12]
def interned : List (Array UInt16 × Addr) := []
def slotsUsed : Nat := 4
def theMethod : MethodId := ⟨1, 1⟩
def args0 : Array Value := #[.long 5, .int 6, .long 7, .int 3]
def aboutOver (below : List Frame) : State where
  vm := { classes := classes, interned := interned.toArray }
  heap := heap
  slotsUsed := slotsUsed
  threads := #[{ frames := .invoking theMethod args0 :: below }]
def below0 : List Frame := [.native { method := ⟨0, 0⟩, args := #[] }]
def about1 : State := aboutOver below0
def p0 : Program := .bare "" "" ""
def e0 : Env := launch0.env 0 0 0
theorem w_frames : about1.frames = Frame.invoking theMethod args0 :: below0 := rfl
set_option maxRecDepth 65536 in
theorem w_args : argsFit about1.vm theMethod args0 = true := by decide +kernel
set_option maxRecDepth 65536 in
theorem w_heap : heapFits about1 = true := by decide +kernel
set_option maxRecDepth 65536 in
theorem w_runnable : about1.curStatus? = some .runnable := by decide +kernel
set_option maxRecDepth 65536 in
theorem w_alone : about1.alone = true := by decide +kernel
set_option maxRecDepth 65536 in
theorem w_named : about1.methodNamed? x = some theMethod := by decide +kernel
set_option maxRecDepth 65536 in
theorem w_hears : about1.hears theMethod below0 = true := by decide +kernel
set_option maxRecDepth 65536 in
theorem w_ripe : about1.ripe theMethod args0 below0 = true := by decide +kernel
theorem w_running : about1.status = .running := rfl
set_option maxRecDepth 65536 in
theorem w_room : about1.hasRoom e0.platform room_1 = true :=
  launch0.hasRoom_least _ room_1 (by decide +kernel) (by decide +kernel) (by decide +kernel) (by decide +kernel) (by decide +kernel) (by decide +kernel)
theorem allAtoms_all (ts : List Jvm.Cond) (a : Array Jvm.Value) (st : Jvm.State) : (allAtoms ts).before a st = ts.all (fun c => c.before a st) := by
  induction ts with
  | nil => rfl
  | cons c t ih =>
    show (Jvm.Cond.and c (allAtoms t)).before a st = _
    rw [Jvm.Cond.before_and, ih, List.all_cons]
def words1 : List Jvm.Cond := Jvm.Cond.code x code maxLocals ret :: tables_1
/-- a 'code' word, met by the world's own term for the bytes: nothing is compared byte by byte -/
theorem code_word {y : MethodName} {bytes : ByteArray} {mx : Nat} {rt : Option FieldType} {a : Array Value} {s : State} {m : MethodId} {meth : Method} {c : Code} (h1 : s.methodNamed? y = some m) (h2 : s.vm.method? m = some meth) (h3 : meth.code = some c) (h4 : c.code = bytes)
    (h5 : (c.maxLocals == mx && c.exceptionTable.isEmpty && decide (c.maxStack ≤ mostOperands) && decide (meth.sig.returnType = rt) && !meth.locks && decide (parseMethodDescriptor y.desc = some meth.sig)) = true) : (Jvm.Cond.code y bytes mx rt).before a s = true := by
  simp only [Bool.and_eq_true, beq_iff_eq, Bool.not_eq_true', decide_eq_true_eq] at h5
  obtain ⟨⟨⟨⟨⟨g1, g2⟩, g3⟩, g4⟩, g5⟩, g6⟩ := h5
  simp [Cond.before, Cond.holds, Cond.value, h1, h2, h3, h4, g1, g2, g3, g4, g5, g6]
def isCode : Jvm.Cond → Bool
  | .code _ _ _ _ => true
  | _ => false
theorem all_split {L : List Jvm.Cond} {P : Jvm.Cond → Bool} (h1 : L.all (fun c => isCode c || P c) = true) (h2 : ∀ c ∈ L.filter isCode, P c = true) : L.all P = true := by
  refine List.all_eq_true.mpr fun c hc => ?_
  have h := List.all_eq_true.mp h1 c hc
  rcases Bool.eq_false_or_eq_true (isCode c) with hi | hi
  · exact h2 c (List.mem_filter.mpr ⟨hc, hi⟩)
  · simpa [hi] using h
set_option maxRecDepth 65536 in
theorem w_c0 : (Jvm.Cond.code x code maxLocals ret).before args0 about1 = true := code_word (m := ⟨1, 1⟩) (meth := k1m1) (c := k1c1) (by decide +kernel) rfl rfl rfl (by decide +kernel)
set_option maxRecDepth 65536 in
theorem w_c1 : (Jvm.Cond.code ({ cls := "com/example/elderflower/elderflower/PagedWords", name := "<init>", desc := "(J)V" } : Jvm.MethodName) prog_35_method_1_code (7 : Nat) (Option.none : Option Jvm.ClassFile.FieldType)).before args0 about1 = true := code_word (m := ⟨2, 0⟩) (meth := k2m0) (c := k2c0) (by decide +kernel) rfl rfl rfl (by decide +kernel)
set_option maxRecDepth 65536 in
theorem w_c2 : (Jvm.Cond.code ({ cls := "java/lang/Object", name := "<init>", desc := "()V" } : Jvm.MethodName) object_method_1_code (1 : Nat) (Option.none : Option Jvm.ClassFile.FieldType)).before args0 about1 = true := code_word (m := ⟨0, 0⟩) (meth := k0m0) (c := k0c0) (by decide +kernel) rfl rfl rfl (by decide +kernel)
set_option maxRecDepth 65536 in
theorem w_c3 : (Jvm.Cond.code ({ cls := "java/lang/Math", name := "min", desc := "(II)I" } : Jvm.MethodName) jdk_29_method_69_code (2 : Nat) (Option.some Jvm.ClassFile.FieldType.int)).before args0 about1 = true := code_word (m := ⟨3, 2⟩) (meth := k3m2) (c := k3c2) (by decide +kernel) rfl rfl rfl (by decide +kernel)
set_option maxRecDepth 65536 in
theorem w_c4 : (Jvm.Cond.code ({ cls := "java/lang/Math", name := "max", desc := "(II)I" } : Jvm.MethodName) jdk_29_method_65_code (2 : Nat) (Option.some Jvm.ClassFile.FieldType.int)).before args0 about1 = true := code_word (m := ⟨3, 1⟩) (meth := k3m1) (c := k3c1) (by decide +kernel) rfl rfl rfl (by decide +kernel)
set_option maxRecDepth 65536 in
theorem w_c5 : (Jvm.Cond.code ({ cls := "com/example/elderflower/elderflower/PagedWords", name := "arrays", desc := "()[[J" } : Jvm.MethodName) prog_35_method_3_code (1 : Nat) (Option.some (Jvm.ClassFile.FieldType.array (Jvm.ClassFile.FieldType.array Jvm.ClassFile.FieldType.long)))).before args0 about1 = true := code_word (m := ⟨2, 1⟩) (meth := k2m1) (c := k2c1) (by decide +kernel) rfl rfl rfl (by decide +kernel)
set_option maxRecDepth 65536 in
theorem w_c6 : (Jvm.Cond.code ({ cls := "com/example/elderflower/elderflower/PagedWords", name := "arrayOf", desc := "(J)[J" } : Jvm.MethodName) prog_35_method_5_code (5 : Nat) (Option.some (Jvm.ClassFile.FieldType.array Jvm.ClassFile.FieldType.long))).before args0 about1 = true := code_word (m := ⟨2, 2⟩) (meth := k2m2) (c := k2c2) (by decide +kernel) rfl rfl rfl (by decide +kernel)
set_option maxRecDepth 65536 in
theorem w_c7 : (Jvm.Cond.code ({ cls := "java/lang/Math", name := "min", desc := "(JJ)J" } : Jvm.MethodName) jdk_29_method_70_code (4 : Nat) (Option.some Jvm.ClassFile.FieldType.long)).before args0 about1 = true := code_word (m := ⟨3, 3⟩) (meth := k3m3) (c := k3c3) (by decide +kernel) rfl rfl rfl (by decide +kernel)
def codes1 : List Jvm.Cond := [Jvm.Cond.code x code maxLocals ret, Jvm.Cond.code ({ cls := "com/example/elderflower/elderflower/PagedWords", name := "<init>", desc := "(J)V" } : Jvm.MethodName) prog_35_method_1_code (7 : Nat) (Option.none : Option Jvm.ClassFile.FieldType), Jvm.Cond.code ({ cls := "java/lang/Object", name := "<init>", desc := "()V" } : Jvm.MethodName) object_method_1_code (1 : Nat) (Option.none : Option Jvm.ClassFile.FieldType), Jvm.Cond.code ({ cls := "java/lang/Math", name := "min", desc := "(II)I" } : Jvm.MethodName) jdk_29_method_69_code (2 : Nat) (Option.some Jvm.ClassFile.FieldType.int), Jvm.Cond.code ({ cls := "java/lang/Math", name := "max", desc := "(II)I" } : Jvm.MethodName) jdk_29_method_65_code (2 : Nat) (Option.some Jvm.ClassFile.FieldType.int), Jvm.Cond.code ({ cls := "com/example/elderflower/elderflower/PagedWords", name := "arrays", desc := "()[[J" } : Jvm.MethodName) prog_35_method_3_code (1 : Nat) (Option.some (Jvm.ClassFile.FieldType.array (Jvm.ClassFile.FieldType.array Jvm.ClassFile.FieldType.long))), Jvm.Cond.code ({ cls := "com/example/elderflower/elderflower/PagedWords", name := "arrayOf", desc := "(J)[J" } : Jvm.MethodName) prog_35_method_5_code (5 : Nat) (Option.some (Jvm.ClassFile.FieldType.array Jvm.ClassFile.FieldType.long)), Jvm.Cond.code ({ cls := "java/lang/Math", name := "min", desc := "(JJ)J" } : Jvm.MethodName) jdk_29_method_70_code (4 : Nat) (Option.some Jvm.ClassFile.FieldType.long)]
set_option maxRecDepth 65536 in
theorem codes_eq : words1.filter isCode = codes1 := rfl
theorem w_codes : ∀ c ∈ words1.filter isCode, c.before args0 about1 = true := by
  rw [codes_eq]
  intro c hc
  simp only [codes1, List.mem_cons, List.not_mem_nil, or_false] at hc
  rcases hc with rfl | rfl | rfl | rfl | rfl | rfl | rfl | rfl
  · exact w_c0
  · exact w_c1
  · exact w_c2
  · exact w_c3
  · exact w_c4
  · exact w_c5
  · exact w_c6
  · exact w_c7
set_option maxRecDepth 65536 in
theorem w_t1 : (words1.take 24).all (fun c => isCode c || c.before args0 about1) = true := by decide +kernel
set_option maxRecDepth 65536 in
theorem w_t2 : ((words1.drop 24).take 24).all (fun c => isCode c || c.before args0 about1) = true := by decide +kernel
set_option maxRecDepth 65536 in
theorem w_t3 : ((words1.drop 24).drop 24).all (fun c => isCode c || c.before args0 about1) = true := by decide +kernel
theorem w_tables : (allAtoms (Jvm.Cond.code x code maxLocals ret :: tables_1)).before args0 about1 = true := by
  rw [allAtoms_all]
  show words1.all (fun c => c.before args0 about1) = true
  refine all_split ?_ w_codes
  rw [← List.take_append_drop 24 words1, List.all_append, w_t1, ← List.take_append_drop 24 (words1.drop 24), List.all_append, w_t2, w_t3]
  rfl
set_option maxRecDepth 65536 in
theorem w_case : (Jvm.Cond.and given_1 narrow_1).before args0 about1 = true := by decide +kernel
theorem w_applies : (headSpec (Jvm.Cond.code x code maxLocals ret :: tables_1) room_1).applies x e0.platform about1 = true :=
  (Spec.applies_iff w_frames).mpr ⟨w_running, w_runnable, w_alone, w_named, w_hears, w_ripe, w_room, w_tables⟩
theorem atStart : AtStart classFile x code maxLocals ret World_1 tables_1 room_1 Calls_1 rest_1 Pre_1 launch0 p0 e0 about1 theMethod args0 below0 :=
  ⟨lists_1, trivial, launch0.admits_env _ _ _, launch0.least_env, fairChoices_fair.cas, fairChoices_fair.clock, w_frames, w_args, w_heap, w_applies, trivial, trivial, w_case⟩
end start1
theorem witness_1 : WitnessClaimed_1 := ⟨start1.p0, start1.e0, start1.about1, start1.theMethod, start1.args0, start1.below0, start1.atStart⟩
end Jvm.Pilot.@@N@@
