import JvmDerived
import JvmDerived.Pilot.@@N@@Statement
import JvmDerived.Pilot.@@N@@Code
set_option linter.unusedVariables false
set_option linter.unusedSimpArgs false

namespace Jvm.RoadKit
open Sem ClassFile Op Lib Jvm.Stand Jvm.Free Jvm.LawKit
section New
variable {p : Program} {l : Launch} {e : Env} {R : Room} {s : State} {m : MethodId} {args : Array Value} {below : List Frame} {meth : Method} {c : Code} {T : State} {locs : List Loc} {cells slots : Nat}
theorem retI (X : Stand p l e R s m args below meth c T locs cells slots) (hx : p.tables.exec = Jvm.exec) {pc : Nat} {Ls : Array Slot} {z : Int32} {rest : List Value} (hret : meth.sig.returnType = some .int) (hd : decode c.code pc = .ok (.ireturn, 1)) {fs : List Frame}
    (hl : ∀ (f : JFrame) (acts : List Action), f.method = m → f.locked = none → f.entered = [] → (doReturn e (T.setTop f) acts (some (.int z))).1 = T.setFrames fs) : Steps p.tables e below (T.setTop (mkF m pc Ls (.int z :: rest))) (T.setFrames fs) := by
  have hm' : T.vm.method? m = some meth := X.method'
  have hn : narrow .int (.int z) = .int z := rfl
  show Steps p.tables e below (T.setTop { method := m, pc := pc, locals := Ls, stack := _ :: rest, locked := none }) _
  jvm_step X.here [X.here.top, hx, hd, hm', hret, hn]
  first | (intro acts; rw [hl _ acts rfl rfl rfl]) | rw [hl _ _ rfl rfl rfl]
  exact Steps.refl _
end New
end Jvm.RoadKit
namespace Jvm.Pilot.@@N@@
open Jvm Jvm.ClassFile Sem Op Lib Jvm.Free Jvm.Stand Jvm.LawKit Jvm.RoadKit Bundle Jvm.Pilot.@@N@@.Jvm.D
/-- a body that returns r, makes and writes nothing -/
def QP (r : Value) (h0 : Heap) (n0 : Nat) (v : Option Value) (h : Heap) (L : List Loc) : Prop := v = some r ∧ Fr n0 L ∧ h = h0
theorem own_d_prog_33_method_2_code_0 : decode prog_33_method_2_code 0 = .ok (.lload_n 0, 1) := by decide +kernel
theorem own_d_prog_33_method_2_code_1 : decode prog_33_method_2_code 1 = .ok (.lload_n 0, 1) := by decide +kernel
theorem own_d_prog_33_method_2_code_2 : decode prog_33_method_2_code 2 = .ok (.bipush 30, 2) := by decide +kernel
theorem own_d_prog_33_method_2_code_4 : decode prog_33_method_2_code 4 = .ok (.lushr, 1) := by decide +kernel
theorem own_d_prog_33_method_2_code_5 : decode prog_33_method_2_code 5 = .ok (.lxor, 1) := by decide +kernel
theorem own_d_prog_33_method_2_code_6 : decode prog_33_method_2_code 6 = .ok (.ldc2_w 7, 3) := by decide +kernel
theorem own_d_prog_33_method_2_code_9 : decode prog_33_method_2_code 9 = .ok (.lmul, 1) := by decide +kernel
theorem own_d_prog_33_method_2_code_10 : decode prog_33_method_2_code 10 = .ok (.lstore_n 2, 1) := by decide +kernel
theorem own_d_prog_33_method_2_code_11 : decode prog_33_method_2_code 11 = .ok (.lload_n 2, 1) := by decide +kernel
theorem own_d_prog_33_method_2_code_12 : decode prog_33_method_2_code 12 = .ok (.lload_n 2, 1) := by decide +kernel
theorem own_d_prog_33_method_2_code_13 : decode prog_33_method_2_code 13 = .ok (.bipush 27, 2) := by decide +kernel
theorem own_d_prog_33_method_2_code_15 : decode prog_33_method_2_code 15 = .ok (.lushr, 1) := by decide +kernel
theorem own_d_prog_33_method_2_code_16 : decode prog_33_method_2_code 16 = .ok (.lxor, 1) := by decide +kernel
theorem own_d_prog_33_method_2_code_17 : decode prog_33_method_2_code 17 = .ok (.ldc2_w 9, 3) := by decide +kernel
theorem own_d_prog_33_method_2_code_20 : decode prog_33_method_2_code 20 = .ok (.lmul, 1) := by decide +kernel
theorem own_d_prog_33_method_2_code_21 : decode prog_33_method_2_code 21 = .ok (.lstore_n 2, 1) := by decide +kernel
theorem own_d_prog_33_method_2_code_22 : decode prog_33_method_2_code 22 = .ok (.lload_n 2, 1) := by decide +kernel
theorem own_d_prog_33_method_2_code_23 : decode prog_33_method_2_code 23 = .ok (.lload_n 2, 1) := by decide +kernel
theorem own_d_prog_33_method_2_code_24 : decode prog_33_method_2_code 24 = .ok (.bipush 31, 2) := by decide +kernel
theorem own_d_prog_33_method_2_code_26 : decode prog_33_method_2_code 26 = .ok (.lushr, 1) := by decide +kernel
theorem own_d_prog_33_method_2_code_27 : decode prog_33_method_2_code 27 = .ok (.lxor, 1) := by decide +kernel
theorem own_d_prog_33_method_2_code_28 : decode prog_33_method_2_code 28 = .ok (.lreturn, 1) := by decide +kernel
theorem own_d_method_3_code_0 : decode method_3_code 0 = .ok (.lload_n 0, 1) := by decide +kernel
theorem own_d_method_3_code_1 : decode method_3_code 1 = .ok (.lload_n 0, 1) := by decide +kernel
theorem own_d_method_3_code_2 : decode method_3_code 2 = .ok (.iload_n 2, 1) := by decide +kernel
theorem own_d_method_3_code_3 : decode method_3_code 3 = .ok (.lushr, 1) := by decide +kernel
theorem own_d_method_3_code_4 : decode method_3_code 4 = .ok (.lxor, 1) := by decide +kernel
theorem own_d_method_3_code_5 : decode method_3_code 5 = .ok (.lload_n 0, 1) := by decide +kernel
theorem own_d_method_3_code_6 : decode method_3_code 6 = .ok (.iconst 2, 1) := by decide +kernel
theorem own_d_method_3_code_7 : decode method_3_code 7 = .ok (.iload_n 2, 1) := by decide +kernel
theorem own_d_method_3_code_8 : decode method_3_code 8 = .ok (.imul, 1) := by decide +kernel
theorem own_d_method_3_code_9 : decode method_3_code 9 = .ok (.lushr, 1) := by decide +kernel
theorem own_d_method_3_code_10 : decode method_3_code 10 = .ok (.lxor, 1) := by decide +kernel
theorem own_d_method_3_code_11 : decode method_3_code 11 = .ok (.lreturn, 1) := by decide +kernel
theorem own_d_method_2_code_0 : decode method_2_code 0 = .ok (.lload_n 0, 1) := by decide +kernel
theorem own_d_method_2_code_1 : decode method_2_code 1 = .ok (.lstore_n 2, 1) := by decide +kernel
theorem own_d_method_2_code_2 : decode method_2_code 2 = .ok (.lload_n 2, 1) := by decide +kernel
theorem own_d_method_2_code_3 : decode method_2_code 3 = .ok (.ldc2_w 7, 3) := by decide +kernel
theorem own_d_method_2_code_6 : decode method_2_code 6 = .ok (.lload_n 0, 1) := by decide +kernel
theorem own_d_method_2_code_7 : decode method_2_code 7 = .ok (.lload_n 2, 1) := by decide +kernel
theorem own_d_method_2_code_8 : decode method_2_code 8 = .ok (.lmul, 1) := by decide +kernel
theorem own_d_method_2_code_9 : decode method_2_code 9 = .ok (.lsub, 1) := by decide +kernel
theorem own_d_method_2_code_10 : decode method_2_code 10 = .ok (.lmul, 1) := by decide +kernel
theorem own_d_method_2_code_11 : decode method_2_code 11 = .ok (.lstore_n 2, 1) := by decide +kernel
theorem own_d_method_2_code_12 : decode method_2_code 12 = .ok (.lload_n 2, 1) := by decide +kernel
theorem own_d_method_2_code_13 : decode method_2_code 13 = .ok (.ldc2_w 7, 3) := by decide +kernel
theorem own_d_method_2_code_16 : decode method_2_code 16 = .ok (.lload_n 0, 1) := by decide +kernel
theorem own_d_method_2_code_17 : decode method_2_code 17 = .ok (.lload_n 2, 1) := by decide +kernel
theorem own_d_method_2_code_18 : decode method_2_code 18 = .ok (.lmul, 1) := by decide +kernel
theorem own_d_method_2_code_19 : decode method_2_code 19 = .ok (.lsub, 1) := by decide +kernel
theorem own_d_method_2_code_20 : decode method_2_code 20 = .ok (.lmul, 1) := by decide +kernel
theorem own_d_method_2_code_21 : decode method_2_code 21 = .ok (.lstore_n 2, 1) := by decide +kernel
theorem own_d_method_2_code_22 : decode method_2_code 22 = .ok (.lload_n 2, 1) := by decide +kernel
theorem own_d_method_2_code_23 : decode method_2_code 23 = .ok (.ldc2_w 7, 3) := by decide +kernel
theorem own_d_method_2_code_26 : decode method_2_code 26 = .ok (.lload_n 0, 1) := by decide +kernel
theorem own_d_method_2_code_27 : decode method_2_code 27 = .ok (.lload_n 2, 1) := by decide +kernel
theorem own_d_method_2_code_28 : decode method_2_code 28 = .ok (.lmul, 1) := by decide +kernel
theorem own_d_method_2_code_29 : decode method_2_code 29 = .ok (.lsub, 1) := by decide +kernel
theorem own_d_method_2_code_30 : decode method_2_code 30 = .ok (.lmul, 1) := by decide +kernel
theorem own_d_method_2_code_31 : decode method_2_code 31 = .ok (.lstore_n 2, 1) := by decide +kernel
theorem own_d_method_2_code_32 : decode method_2_code 32 = .ok (.lload_n 2, 1) := by decide +kernel
theorem own_d_method_2_code_33 : decode method_2_code 33 = .ok (.ldc2_w 7, 3) := by decide +kernel
theorem own_d_method_2_code_36 : decode method_2_code 36 = .ok (.lload_n 0, 1) := by decide +kernel
theorem own_d_method_2_code_37 : decode method_2_code 37 = .ok (.lload_n 2, 1) := by decide +kernel
theorem own_d_method_2_code_38 : decode method_2_code 38 = .ok (.lmul, 1) := by decide +kernel
theorem own_d_method_2_code_39 : decode method_2_code 39 = .ok (.lsub, 1) := by decide +kernel
theorem own_d_method_2_code_40 : decode method_2_code 40 = .ok (.lmul, 1) := by decide +kernel
theorem own_d_method_2_code_41 : decode method_2_code 41 = .ok (.lstore_n 2, 1) := by decide +kernel
theorem own_d_method_2_code_42 : decode method_2_code 42 = .ok (.lload_n 2, 1) := by decide +kernel
theorem own_d_method_2_code_43 : decode method_2_code 43 = .ok (.ldc2_w 7, 3) := by decide +kernel
theorem own_d_method_2_code_46 : decode method_2_code 46 = .ok (.lload_n 0, 1) := by decide +kernel
theorem own_d_method_2_code_47 : decode method_2_code 47 = .ok (.lload_n 2, 1) := by decide +kernel
theorem own_d_method_2_code_48 : decode method_2_code 48 = .ok (.lmul, 1) := by decide +kernel
theorem own_d_method_2_code_49 : decode method_2_code 49 = .ok (.lsub, 1) := by decide +kernel
theorem own_d_method_2_code_50 : decode method_2_code 50 = .ok (.lmul, 1) := by decide +kernel
theorem own_d_method_2_code_51 : decode method_2_code 51 = .ok (.lstore_n 2, 1) := by decide +kernel
theorem own_d_method_2_code_52 : decode method_2_code 52 = .ok (.lload_n 2, 1) := by decide +kernel
theorem own_d_method_2_code_53 : decode method_2_code 53 = .ok (.lreturn, 1) := by decide +kernel
theorem own_d_method_4_code_0 : decode method_4_code 0 = .ok (.lload_n 0, 1) := by decide +kernel
theorem own_d_method_4_code_1 : decode method_4_code 1 = .ok (.bipush 31, 2) := by decide +kernel
theorem own_d_method_4_code_3 : decode method_4_code 3 = .ok (.invokestatic 9, 3) := by decide +kernel
theorem own_d_method_4_code_6 : decode method_4_code 6 = .ok (.lstore_n 2, 1) := by decide +kernel
theorem own_d_method_4_code_7 : decode method_4_code 7 = .ok (.lload_n 2, 1) := by decide +kernel
theorem own_d_method_4_code_8 : decode method_4_code 8 = .ok (.ldc2_w 15, 3) := by decide +kernel
theorem own_d_method_4_code_11 : decode method_4_code 11 = .ok (.invokestatic 17, 3) := by decide +kernel
theorem own_d_method_4_code_14 : decode method_4_code 14 = .ok (.lmul, 1) := by decide +kernel
theorem own_d_method_4_code_15 : decode method_4_code 15 = .ok (.bipush 27, 2) := by decide +kernel
theorem own_d_method_4_code_17 : decode method_4_code 17 = .ok (.invokestatic 9, 3) := by decide +kernel
theorem own_d_method_4_code_20 : decode method_4_code 20 = .ok (.lstore 4, 2) := by decide +kernel
theorem own_d_method_4_code_22 : decode method_4_code 22 = .ok (.lload 4, 2) := by decide +kernel
theorem own_d_method_4_code_24 : decode method_4_code 24 = .ok (.ldc2_w 21, 3) := by decide +kernel
theorem own_d_method_4_code_27 : decode method_4_code 27 = .ok (.invokestatic 17, 3) := by decide +kernel
theorem own_d_method_4_code_30 : decode method_4_code 30 = .ok (.lmul, 1) := by decide +kernel
theorem own_d_method_4_code_31 : decode method_4_code 31 = .ok (.bipush 30, 2) := by decide +kernel
theorem own_d_method_4_code_33 : decode method_4_code 33 = .ok (.invokestatic 9, 3) := by decide +kernel
theorem own_d_method_4_code_36 : decode method_4_code 36 = .ok (.lreturn, 1) := by decide +kernel
theorem own_pd0 : parseMethodDescriptor "(JI)J" = some ⟨[.long, .int], some .long⟩ := by decide +kernel
theorem own_pd1 : parseMethodDescriptor "(J)J" = some ⟨[.long], some .long⟩ := by decide +kernel
theorem own_pn0 : plainName "com/example/elderflower/elderflower/Hashing" = true := by first | (simp [plainName, overriddenIn]; done) | decide +kernel
theorem own_pn1 : plainName "com/example/elderflower/elderflower/HashingMixPinLaw" = true := by first | (simp [plainName, overriddenIn]; done) | decide +kernel
def QL (n0 : Nat) (v : Option Value) (h : Heap) (L : List Loc) : Prop := v = some (.int 1) ∧ Fr n0 L
theorem own_lc0 {a b : Int64} (h : a = b) : lcmpW a b = 0 := (lcW a b).trans ((lc_eq a b).mpr h)
theorem own_lcn {a b : Int64} (h : ¬ a = b) : ¬ lcmpW a b = 0 := fun q => h ((lc_eq a b).mp ((lcW a b).symm.trans q))
theorem own_lclt {a b : Int64} (h : a < b) : lcmpW a b < 0 := (lcW a b).symm ▸ (lc_lt a b).mpr h
theorem own_lcge {a b : Int64} (h : ¬ a < b) : ¬ lcmpW a b < 0 := fun q => h ((lc_lt a b).mp ((lcW a b) ▸ q))
theorem own_lcgt {a b : Int64} (h : b < a) : 0 < lcmpW a b := (lcW a b).symm ▸ (lc_gt a b).mpr h
theorem own_lcle {a b : Int64} (h : ¬ b < a) : ¬ 0 < lcmpW a b := fun q => h ((lc_gt a b).mp ((lcW a b) ▸ q))
theorem own_unxB (z : BitVec 64) (s : Nat) (h : 64 ≤ 3 * s) : ((z ^^^ z >>> s) ^^^ (z ^^^ z >>> s) >>> s) ^^^ (z ^^^ z >>> s) >>> (2 * s) = z := by
  apply BitVec.eq_of_getLsbD_eq
  intro i hi
  simp only [BitVec.getLsbD_xor, BitVec.getLsbD_ushiftRight]
  have e1 : s + (s + i) = 2 * s + i := by omega
  have e2 : z.getLsbD (s + (2 * s + i)) = false := BitVec.getLsbD_of_ge _ _ (by omega)
  rw [e1, e2]
  cases z.getLsbD i <;> cases z.getLsbD (s + i) <;> cases z.getLsbD (2 * s + i) <;> rfl
def own_ush (y : Int64) (s : Int32) : Int64 := (y.toUInt64 >>> (s &&& 0x3f).toInt64.toUInt64).toInt64
def own_unx (y : Int64) (s : Int32) : Int64 := ((y ^^^ own_ush y s) ^^^ own_ush y ((2 : Int32) * s))
def own_z1 (v : Int64) : Int64 := (v ^^^ own_ush v 30) * (-4658895280553007687 : Int64)
def own_z2 (v : Int64) : Int64 := (own_z1 v ^^^ own_ush (own_z1 v) 27) * (-7723592293110705685 : Int64)
def own_mix (v : Int64) : Int64 := own_z2 v ^^^ own_ush (own_z2 v) 31
def own_unmix (r : Int64) : Int64 := own_unx ((own_unx ((own_unx r 31) * (3573116690164977347 : Int64)) 27) * (-7575587736534282103 : Int64)) 30
theorem own_back30 (z : Int64) : own_unx (z ^^^ own_ush z 30) 30 = z := by
  have h1 : ((30 : Int32) &&& 0x3f).toInt64.toUInt64 = 30 := by decide +kernel
  have h2 : (((2 : Int32) * 30) &&& 0x3f).toInt64.toUInt64 = 60 := by decide +kernel
  unfold own_unx own_ush
  rw [h1, h2]
  apply Int64.toBitVec_inj.mp
  simp only [Int64.toBitVec_xor, UInt64.toBitVec_toInt64, UInt64.toBitVec_shiftRight, Int64.toBitVec_toUInt64]
  exact own_unxB z.toBitVec 30 (by decide)
theorem own_back27 (z : Int64) : own_unx (z ^^^ own_ush z 27) 27 = z := by
  have h1 : ((27 : Int32) &&& 0x3f).toInt64.toUInt64 = 27 := by decide +kernel
  have h2 : (((2 : Int32) * 27) &&& 0x3f).toInt64.toUInt64 = 54 := by decide +kernel
  unfold own_unx own_ush
  rw [h1, h2]
  apply Int64.toBitVec_inj.mp
  simp only [Int64.toBitVec_xor, UInt64.toBitVec_toInt64, UInt64.toBitVec_shiftRight, Int64.toBitVec_toUInt64]
  exact own_unxB z.toBitVec 27 (by decide)
theorem own_back31 (z : Int64) : own_unx (z ^^^ own_ush z 31) 31 = z := by
  have h1 : ((31 : Int32) &&& 0x3f).toInt64.toUInt64 = 31 := by decide +kernel
  have h2 : (((2 : Int32) * 31) &&& 0x3f).toInt64.toUInt64 = 62 := by decide +kernel
  unfold own_unx own_ush
  rw [h1, h2]
  apply Int64.toBitVec_inj.mp
  simp only [Int64.toBitVec_xor, UInt64.toBitVec_toInt64, UInt64.toBitVec_shiftRight, Int64.toBitVec_toUInt64]
  exact own_unxB z.toBitVec 31 (by decide)
theorem own_law (v : Int64) : own_unmix (own_mix v) = v := by
  have i1 : ((-4658895280553007687 : Int64) * (-7575587736534282103 : Int64)) = 1 := by decide +kernel
  have i2 : ((-7723592293110705685 : Int64) * (3573116690164977347 : Int64)) = 1 := by decide +kernel
  have a1 : own_unx (own_mix v) 31 = own_z2 v := own_back31 _
  have a2 : own_z2 v * (3573116690164977347 : Int64) = own_z1 v ^^^ own_ush (own_z1 v) 27 := by unfold own_z2; rw [Int64.mul_assoc, i2, Int64.mul_one]
  have a3 : own_z1 v * (-7575587736534282103 : Int64) = v ^^^ own_ush v 30 := by unfold own_z1; rw [Int64.mul_assoc, i1, Int64.mul_one]
  unfold own_unmix
  rw [a1, a2, own_back27, a3, own_back30]
theorem own_ef_rm1 (m : MethodId) (y0 : Int64) : entryFrame m #[(.long y0)] 4 = mkF m 0 #[.val (.long y0), .second, .unset, .unset] [] := by first | (simp [entryFrame, mkF, argsToLocals, Value.category]; done) | rfl
set_option maxRecDepth 65536 in
set_option maxHeartbeats 40000000 in
theorem rm1 (l : Launch) (Z : State) (a0 : Array Value) (hw : ∀ d ∈ tables_1, d.before a0 Z = true) (ws : List Jvm.Cond) (p1 : Int64) (h0 : Heap) (n0 : Nat) (Z0 : n0 ≤ h0.size)  :
    MetFree l (⟨"com/example/elderflower/elderflower/Hashing", "mix", "(J)J"⟩ : MethodName) (head1 (Jvm.Cond.code (⟨"com/example/elderflower/elderflower/Hashing", "mix", "(J)J"⟩ : MethodName) prog_33_method_2_code 4 (some .long) :: ws) ({ frames := 0, cells := 0, slots := 0, locals := 0 } : Room)) (fun a U => a = #[(.long p1)] ∧ Z.Warmed39 U.vm ∧ U.heap = h0) (fun _ _ _ _ _ => True) (fun _ U o U' => ∃ v L, o = .returned v ∧ QP (.long (own_mix p1)) h0 n0 v U'.heap L ∧ FrameEnd U o U' L ({ frames := 0, cells := 0, slots := 0, locals := 0 } : Room).cells ({ frames := 0, cells := 0, slots := 0, locals := 0 } : Room).slots) := by
  refine MetFree.of_bodySF (plainFor_of_name own_pn0) hisR ?_
  intro p e s m args below meth c s₁ Bd hml0 hP hK
  obtain ⟨rfl, hZ, hh⟩ := hP
  have hx := Bd.exec
  have hby := Bd.bytes
  have hml : c.maxLocals = 4 := hml0
  have hown : s.vm.findClass "com/example/elderflower/elderflower/Hashing" = some m.cls := findClass_of_methodNamed Bd.named
  have hnm := (name_of_methodNamed Bd.named Bd.method).1
  have X0 : Stand p l e ({ frames := 0, cells := 0, slots := 0, locals := 0 } : Room) s m #[(.long p1)] below meth c s₁ [] 0 0 := Stand.of_body Bd
  have e0 : s₁.heap = h0 := by rw [← hh, Bd.state]; rfl
  have N0 := Fr.nil n0
  have pre0 : ∀ t, Steps p.tables e below (s₁.setTop (mkF m 0 #[.val (.long p1), .second, .unset, .unset] [])) t → Steps p.tables e below (s₁.setTop (entryFrame m #[(.long p1)] 4)) t := fun t k => castTop (own_ef_rm1 m p1) k
  have pre1 : ∀ t, Steps p.tables e below (s₁.setTop (mkF m 28 #[.val (.long p1), .second, .val (.long ((((p1 ^^^ ((p1.toUInt64 >>> ((30 : Int32) &&& 0x3f).toInt64.toUInt64).toInt64)) * (-4658895280553007687 : Int64)) ^^^ ((((p1 ^^^ ((p1.toUInt64 >>> ((30 : Int32) &&& 0x3f).toInt64.toUInt64).toInt64)) * (-4658895280553007687 : Int64)).toUInt64 >>> ((27 : Int32) &&& 0x3f).toInt64.toUInt64).toInt64)) * (-7723592293110705685 : Int64))), .second] [(.long (((((p1 ^^^ ((p1.toUInt64 >>> ((30 : Int32) &&& 0x3f).toInt64.toUInt64).toInt64)) * (-4658895280553007687 : Int64)) ^^^ ((((p1 ^^^ ((p1.toUInt64 >>> ((30 : Int32) &&& 0x3f).toInt64.toUInt64).toInt64)) * (-4658895280553007687 : Int64)).toUInt64 >>> ((27 : Int32) &&& 0x3f).toInt64.toUInt64).toInt64)) * (-7723592293110705685 : Int64)) ^^^ ((((((p1 ^^^ ((p1.toUInt64 >>> ((30 : Int32) &&& 0x3f).toInt64.toUInt64).toInt64)) * (-4658895280553007687 : Int64)) ^^^ ((((p1 ^^^ ((p1.toUInt64 >>> ((30 : Int32) &&& 0x3f).toInt64.toUInt64).toInt64)) * (-4658895280553007687 : Int64)).toUInt64 >>> ((27 : Int32) &&& 0x3f).toInt64.toUInt64).toInt64)) * (-7723592293110705685 : Int64)).toUInt64 >>> ((31 : Int32) &&& 0x3f).toInt64.toUInt64).toInt64)))])) t → Steps p.tables e below (s₁.setTop (entryFrame m #[(.long p1)] 4)) t := fun t k => pre0 t (by
    show Steps p.tables e below (s₁.setTop (mkF m 0 #[.val (.long p1), .second, .unset, .unset] [])) _
    refine XS.lloadN X0.here hx rfl (hb hby own_d_prog_33_method_2_code_0) rfl ?_
    show Steps p.tables e below (s₁.setTop (mkF m 1 #[.val (.long p1), .second, .unset, .unset] [(.long p1)])) _
    refine XS.lloadN X0.here hx rfl (hb hby own_d_prog_33_method_2_code_1) rfl ?_
    show Steps p.tables e below (s₁.setTop (mkF m 2 #[.val (.long p1), .second, .unset, .unset] [(.long p1), (.long p1)])) _
    refine XS.bipush X0.here hx rfl (hb hby own_d_prog_33_method_2_code_2) ?_
    show Steps p.tables e below (s₁.setTop (mkF m 4 #[.val (.long p1), .second, .unset, .unset] [(.int (30 : Int32)), (.long p1), (.long p1)])) _
    refine XS.lushr X0.here hx rfl (hb hby own_d_prog_33_method_2_code_4) rfl ?_
    show Steps p.tables e below (s₁.setTop (mkF m 5 #[.val (.long p1), .second, .unset, .unset] [(.long ((p1.toUInt64 >>> ((30 : Int32) &&& 0x3f).toInt64.toUInt64).toInt64)), (.long p1)])) _
    refine XS.lxor X0.here hx rfl (hb hby own_d_prog_33_method_2_code_5) rfl ?_
    show Steps p.tables e below (s₁.setTop (mkF m 6 #[.val (.long p1), .second, .unset, .unset] [(.long (p1 ^^^ ((p1.toUInt64 >>> ((30 : Int32) &&& 0x3f).toInt64.toUInt64).toInt64)))])) _
    refine X0.ldc2Long hx hown (mvT hZ (hw _ (List.mem_of_getElem? (i := 4) rfl))) (g := (mkF m 6 #[.val (.long p1), .second, .unset, .unset] [(.long (p1 ^^^ ((p1.toUInt64 >>> ((30 : Int32) &&& 0x3f).toInt64.toUInt64).toInt64)))])) rfl (hb hby own_d_prog_33_method_2_code_6) _ ?_
    show Steps p.tables e below (s₁.setTop (mkF m 9 #[.val (.long p1), .second, .unset, .unset] [(.long (-4658895280553007687 : Int64)), (.long (p1 ^^^ ((p1.toUInt64 >>> ((30 : Int32) &&& 0x3f).toInt64.toUInt64).toInt64)))])) _
    refine XS.lmul X0.here hx rfl (hb hby own_d_prog_33_method_2_code_9) rfl ?_
    show Steps p.tables e below (s₁.setTop (mkF m 10 #[.val (.long p1), .second, .unset, .unset] [(.long ((p1 ^^^ ((p1.toUInt64 >>> ((30 : Int32) &&& 0x3f).toInt64.toUInt64).toInt64)) * (-4658895280553007687 : Int64)))])) _
    refine XS.lstoreN X0.here hx rfl (hb hby own_d_prog_33_method_2_code_10) rfl (l' := #[.val (.long p1), .second, .val (.long ((p1 ^^^ ((p1.toUInt64 >>> ((30 : Int32) &&& 0x3f).toInt64.toUInt64).toInt64)) * (-4658895280553007687 : Int64))), .second]) rfl ?_
    show Steps p.tables e below (s₁.setTop (mkF m 11 #[.val (.long p1), .second, .val (.long ((p1 ^^^ ((p1.toUInt64 >>> ((30 : Int32) &&& 0x3f).toInt64.toUInt64).toInt64)) * (-4658895280553007687 : Int64))), .second] [])) _
    refine XS.lloadN X0.here hx rfl (hb hby own_d_prog_33_method_2_code_11) rfl ?_
    show Steps p.tables e below (s₁.setTop (mkF m 12 #[.val (.long p1), .second, .val (.long ((p1 ^^^ ((p1.toUInt64 >>> ((30 : Int32) &&& 0x3f).toInt64.toUInt64).toInt64)) * (-4658895280553007687 : Int64))), .second] [(.long ((p1 ^^^ ((p1.toUInt64 >>> ((30 : Int32) &&& 0x3f).toInt64.toUInt64).toInt64)) * (-4658895280553007687 : Int64)))])) _
    refine XS.lloadN X0.here hx rfl (hb hby own_d_prog_33_method_2_code_12) rfl ?_
    show Steps p.tables e below (s₁.setTop (mkF m 13 #[.val (.long p1), .second, .val (.long ((p1 ^^^ ((p1.toUInt64 >>> ((30 : Int32) &&& 0x3f).toInt64.toUInt64).toInt64)) * (-4658895280553007687 : Int64))), .second] [(.long ((p1 ^^^ ((p1.toUInt64 >>> ((30 : Int32) &&& 0x3f).toInt64.toUInt64).toInt64)) * (-4658895280553007687 : Int64))), (.long ((p1 ^^^ ((p1.toUInt64 >>> ((30 : Int32) &&& 0x3f).toInt64.toUInt64).toInt64)) * (-4658895280553007687 : Int64)))])) _
    refine XS.bipush X0.here hx rfl (hb hby own_d_prog_33_method_2_code_13) ?_
    show Steps p.tables e below (s₁.setTop (mkF m 15 #[.val (.long p1), .second, .val (.long ((p1 ^^^ ((p1.toUInt64 >>> ((30 : Int32) &&& 0x3f).toInt64.toUInt64).toInt64)) * (-4658895280553007687 : Int64))), .second] [(.int (27 : Int32)), (.long ((p1 ^^^ ((p1.toUInt64 >>> ((30 : Int32) &&& 0x3f).toInt64.toUInt64).toInt64)) * (-4658895280553007687 : Int64))), (.long ((p1 ^^^ ((p1.toUInt64 >>> ((30 : Int32) &&& 0x3f).toInt64.toUInt64).toInt64)) * (-4658895280553007687 : Int64)))])) _
    refine XS.lushr X0.here hx rfl (hb hby own_d_prog_33_method_2_code_15) rfl ?_
    show Steps p.tables e below (s₁.setTop (mkF m 16 #[.val (.long p1), .second, .val (.long ((p1 ^^^ ((p1.toUInt64 >>> ((30 : Int32) &&& 0x3f).toInt64.toUInt64).toInt64)) * (-4658895280553007687 : Int64))), .second] [(.long ((((p1 ^^^ ((p1.toUInt64 >>> ((30 : Int32) &&& 0x3f).toInt64.toUInt64).toInt64)) * (-4658895280553007687 : Int64)).toUInt64 >>> ((27 : Int32) &&& 0x3f).toInt64.toUInt64).toInt64)), (.long ((p1 ^^^ ((p1.toUInt64 >>> ((30 : Int32) &&& 0x3f).toInt64.toUInt64).toInt64)) * (-4658895280553007687 : Int64)))])) _
    refine XS.lxor X0.here hx rfl (hb hby own_d_prog_33_method_2_code_16) rfl ?_
    show Steps p.tables e below (s₁.setTop (mkF m 17 #[.val (.long p1), .second, .val (.long ((p1 ^^^ ((p1.toUInt64 >>> ((30 : Int32) &&& 0x3f).toInt64.toUInt64).toInt64)) * (-4658895280553007687 : Int64))), .second] [(.long (((p1 ^^^ ((p1.toUInt64 >>> ((30 : Int32) &&& 0x3f).toInt64.toUInt64).toInt64)) * (-4658895280553007687 : Int64)) ^^^ ((((p1 ^^^ ((p1.toUInt64 >>> ((30 : Int32) &&& 0x3f).toInt64.toUInt64).toInt64)) * (-4658895280553007687 : Int64)).toUInt64 >>> ((27 : Int32) &&& 0x3f).toInt64.toUInt64).toInt64)))])) _
    refine X0.ldc2Long hx hown (mvT hZ (hw _ (List.mem_of_getElem? (i := 5) rfl))) (g := (mkF m 17 #[.val (.long p1), .second, .val (.long ((p1 ^^^ ((p1.toUInt64 >>> ((30 : Int32) &&& 0x3f).toInt64.toUInt64).toInt64)) * (-4658895280553007687 : Int64))), .second] [(.long (((p1 ^^^ ((p1.toUInt64 >>> ((30 : Int32) &&& 0x3f).toInt64.toUInt64).toInt64)) * (-4658895280553007687 : Int64)) ^^^ ((((p1 ^^^ ((p1.toUInt64 >>> ((30 : Int32) &&& 0x3f).toInt64.toUInt64).toInt64)) * (-4658895280553007687 : Int64)).toUInt64 >>> ((27 : Int32) &&& 0x3f).toInt64.toUInt64).toInt64)))])) rfl (hb hby own_d_prog_33_method_2_code_17) _ ?_
    show Steps p.tables e below (s₁.setTop (mkF m 20 #[.val (.long p1), .second, .val (.long ((p1 ^^^ ((p1.toUInt64 >>> ((30 : Int32) &&& 0x3f).toInt64.toUInt64).toInt64)) * (-4658895280553007687 : Int64))), .second] [(.long (-7723592293110705685 : Int64)), (.long (((p1 ^^^ ((p1.toUInt64 >>> ((30 : Int32) &&& 0x3f).toInt64.toUInt64).toInt64)) * (-4658895280553007687 : Int64)) ^^^ ((((p1 ^^^ ((p1.toUInt64 >>> ((30 : Int32) &&& 0x3f).toInt64.toUInt64).toInt64)) * (-4658895280553007687 : Int64)).toUInt64 >>> ((27 : Int32) &&& 0x3f).toInt64.toUInt64).toInt64)))])) _
    refine XS.lmul X0.here hx rfl (hb hby own_d_prog_33_method_2_code_20) rfl ?_
    show Steps p.tables e below (s₁.setTop (mkF m 21 #[.val (.long p1), .second, .val (.long ((p1 ^^^ ((p1.toUInt64 >>> ((30 : Int32) &&& 0x3f).toInt64.toUInt64).toInt64)) * (-4658895280553007687 : Int64))), .second] [(.long ((((p1 ^^^ ((p1.toUInt64 >>> ((30 : Int32) &&& 0x3f).toInt64.toUInt64).toInt64)) * (-4658895280553007687 : Int64)) ^^^ ((((p1 ^^^ ((p1.toUInt64 >>> ((30 : Int32) &&& 0x3f).toInt64.toUInt64).toInt64)) * (-4658895280553007687 : Int64)).toUInt64 >>> ((27 : Int32) &&& 0x3f).toInt64.toUInt64).toInt64)) * (-7723592293110705685 : Int64)))])) _
    refine XS.lstoreN X0.here hx rfl (hb hby own_d_prog_33_method_2_code_21) rfl (l' := #[.val (.long p1), .second, .val (.long ((((p1 ^^^ ((p1.toUInt64 >>> ((30 : Int32) &&& 0x3f).toInt64.toUInt64).toInt64)) * (-4658895280553007687 : Int64)) ^^^ ((((p1 ^^^ ((p1.toUInt64 >>> ((30 : Int32) &&& 0x3f).toInt64.toUInt64).toInt64)) * (-4658895280553007687 : Int64)).toUInt64 >>> ((27 : Int32) &&& 0x3f).toInt64.toUInt64).toInt64)) * (-7723592293110705685 : Int64))), .second]) rfl ?_
    show Steps p.tables e below (s₁.setTop (mkF m 22 #[.val (.long p1), .second, .val (.long ((((p1 ^^^ ((p1.toUInt64 >>> ((30 : Int32) &&& 0x3f).toInt64.toUInt64).toInt64)) * (-4658895280553007687 : Int64)) ^^^ ((((p1 ^^^ ((p1.toUInt64 >>> ((30 : Int32) &&& 0x3f).toInt64.toUInt64).toInt64)) * (-4658895280553007687 : Int64)).toUInt64 >>> ((27 : Int32) &&& 0x3f).toInt64.toUInt64).toInt64)) * (-7723592293110705685 : Int64))), .second] [])) _
    refine XS.lloadN X0.here hx rfl (hb hby own_d_prog_33_method_2_code_22) rfl ?_
    show Steps p.tables e below (s₁.setTop (mkF m 23 #[.val (.long p1), .second, .val (.long ((((p1 ^^^ ((p1.toUInt64 >>> ((30 : Int32) &&& 0x3f).toInt64.toUInt64).toInt64)) * (-4658895280553007687 : Int64)) ^^^ ((((p1 ^^^ ((p1.toUInt64 >>> ((30 : Int32) &&& 0x3f).toInt64.toUInt64).toInt64)) * (-4658895280553007687 : Int64)).toUInt64 >>> ((27 : Int32) &&& 0x3f).toInt64.toUInt64).toInt64)) * (-7723592293110705685 : Int64))), .second] [(.long ((((p1 ^^^ ((p1.toUInt64 >>> ((30 : Int32) &&& 0x3f).toInt64.toUInt64).toInt64)) * (-4658895280553007687 : Int64)) ^^^ ((((p1 ^^^ ((p1.toUInt64 >>> ((30 : Int32) &&& 0x3f).toInt64.toUInt64).toInt64)) * (-4658895280553007687 : Int64)).toUInt64 >>> ((27 : Int32) &&& 0x3f).toInt64.toUInt64).toInt64)) * (-7723592293110705685 : Int64)))])) _
    refine XS.lloadN X0.here hx rfl (hb hby own_d_prog_33_method_2_code_23) rfl ?_
    show Steps p.tables e below (s₁.setTop (mkF m 24 #[.val (.long p1), .second, .val (.long ((((p1 ^^^ ((p1.toUInt64 >>> ((30 : Int32) &&& 0x3f).toInt64.toUInt64).toInt64)) * (-4658895280553007687 : Int64)) ^^^ ((((p1 ^^^ ((p1.toUInt64 >>> ((30 : Int32) &&& 0x3f).toInt64.toUInt64).toInt64)) * (-4658895280553007687 : Int64)).toUInt64 >>> ((27 : Int32) &&& 0x3f).toInt64.toUInt64).toInt64)) * (-7723592293110705685 : Int64))), .second] [(.long ((((p1 ^^^ ((p1.toUInt64 >>> ((30 : Int32) &&& 0x3f).toInt64.toUInt64).toInt64)) * (-4658895280553007687 : Int64)) ^^^ ((((p1 ^^^ ((p1.toUInt64 >>> ((30 : Int32) &&& 0x3f).toInt64.toUInt64).toInt64)) * (-4658895280553007687 : Int64)).toUInt64 >>> ((27 : Int32) &&& 0x3f).toInt64.toUInt64).toInt64)) * (-7723592293110705685 : Int64))), (.long ((((p1 ^^^ ((p1.toUInt64 >>> ((30 : Int32) &&& 0x3f).toInt64.toUInt64).toInt64)) * (-4658895280553007687 : Int64)) ^^^ ((((p1 ^^^ ((p1.toUInt64 >>> ((30 : Int32) &&& 0x3f).toInt64.toUInt64).toInt64)) * (-4658895280553007687 : Int64)).toUInt64 >>> ((27 : Int32) &&& 0x3f).toInt64.toUInt64).toInt64)) * (-7723592293110705685 : Int64)))])) _
    refine XS.bipush X0.here hx rfl (hb hby own_d_prog_33_method_2_code_24) ?_
    show Steps p.tables e below (s₁.setTop (mkF m 26 #[.val (.long p1), .second, .val (.long ((((p1 ^^^ ((p1.toUInt64 >>> ((30 : Int32) &&& 0x3f).toInt64.toUInt64).toInt64)) * (-4658895280553007687 : Int64)) ^^^ ((((p1 ^^^ ((p1.toUInt64 >>> ((30 : Int32) &&& 0x3f).toInt64.toUInt64).toInt64)) * (-4658895280553007687 : Int64)).toUInt64 >>> ((27 : Int32) &&& 0x3f).toInt64.toUInt64).toInt64)) * (-7723592293110705685 : Int64))), .second] [(.int (31 : Int32)), (.long ((((p1 ^^^ ((p1.toUInt64 >>> ((30 : Int32) &&& 0x3f).toInt64.toUInt64).toInt64)) * (-4658895280553007687 : Int64)) ^^^ ((((p1 ^^^ ((p1.toUInt64 >>> ((30 : Int32) &&& 0x3f).toInt64.toUInt64).toInt64)) * (-4658895280553007687 : Int64)).toUInt64 >>> ((27 : Int32) &&& 0x3f).toInt64.toUInt64).toInt64)) * (-7723592293110705685 : Int64))), (.long ((((p1 ^^^ ((p1.toUInt64 >>> ((30 : Int32) &&& 0x3f).toInt64.toUInt64).toInt64)) * (-4658895280553007687 : Int64)) ^^^ ((((p1 ^^^ ((p1.toUInt64 >>> ((30 : Int32) &&& 0x3f).toInt64.toUInt64).toInt64)) * (-4658895280553007687 : Int64)).toUInt64 >>> ((27 : Int32) &&& 0x3f).toInt64.toUInt64).toInt64)) * (-7723592293110705685 : Int64)))])) _
    refine XS.lushr X0.here hx rfl (hb hby own_d_prog_33_method_2_code_26) rfl ?_
    show Steps p.tables e below (s₁.setTop (mkF m 27 #[.val (.long p1), .second, .val (.long ((((p1 ^^^ ((p1.toUInt64 >>> ((30 : Int32) &&& 0x3f).toInt64.toUInt64).toInt64)) * (-4658895280553007687 : Int64)) ^^^ ((((p1 ^^^ ((p1.toUInt64 >>> ((30 : Int32) &&& 0x3f).toInt64.toUInt64).toInt64)) * (-4658895280553007687 : Int64)).toUInt64 >>> ((27 : Int32) &&& 0x3f).toInt64.toUInt64).toInt64)) * (-7723592293110705685 : Int64))), .second] [(.long ((((((p1 ^^^ ((p1.toUInt64 >>> ((30 : Int32) &&& 0x3f).toInt64.toUInt64).toInt64)) * (-4658895280553007687 : Int64)) ^^^ ((((p1 ^^^ ((p1.toUInt64 >>> ((30 : Int32) &&& 0x3f).toInt64.toUInt64).toInt64)) * (-4658895280553007687 : Int64)).toUInt64 >>> ((27 : Int32) &&& 0x3f).toInt64.toUInt64).toInt64)) * (-7723592293110705685 : Int64)).toUInt64 >>> ((31 : Int32) &&& 0x3f).toInt64.toUInt64).toInt64)), (.long ((((p1 ^^^ ((p1.toUInt64 >>> ((30 : Int32) &&& 0x3f).toInt64.toUInt64).toInt64)) * (-4658895280553007687 : Int64)) ^^^ ((((p1 ^^^ ((p1.toUInt64 >>> ((30 : Int32) &&& 0x3f).toInt64.toUInt64).toInt64)) * (-4658895280553007687 : Int64)).toUInt64 >>> ((27 : Int32) &&& 0x3f).toInt64.toUInt64).toInt64)) * (-7723592293110705685 : Int64)))])) _
    refine XS.lxor X0.here hx rfl (hb hby own_d_prog_33_method_2_code_27) rfl ?_
    exact k)
  obtain ⟨fs, hr, hrun, hended, hW, hsame⟩ := X0.leave (v := some (.long (((((p1 ^^^ ((p1.toUInt64 >>> ((30 : Int32) &&& 0x3f).toInt64.toUInt64).toInt64)) * (-4658895280553007687 : Int64)) ^^^ ((((p1 ^^^ ((p1.toUInt64 >>> ((30 : Int32) &&& 0x3f).toInt64.toUInt64).toInt64)) * (-4658895280553007687 : Int64)).toUInt64 >>> ((27 : Int32) &&& 0x3f).toInt64.toUInt64).toInt64)) * (-7723592293110705685 : Int64)) ^^^ ((((((p1 ^^^ ((p1.toUInt64 >>> ((30 : Int32) &&& 0x3f).toInt64.toUInt64).toInt64)) * (-4658895280553007687 : Int64)) ^^^ ((((p1 ^^^ ((p1.toUInt64 >>> ((30 : Int32) &&& 0x3f).toInt64.toUInt64).toInt64)) * (-4658895280553007687 : Int64)).toUInt64 >>> ((27 : Int32) &&& 0x3f).toInt64.toUInt64).toInt64)) * (-7723592293110705685 : Int64)).toUInt64 >>> ((31 : Int32) &&& 0x3f).toInt64.toUInt64).toInt64)))) (fun h => by rw [Bd.returns] at h; cases h)
  refine ⟨_, _, pre1 _ ?_, hrun, hended, _, _, rfl, ?_, ⟨_, rfl⟩, hW, hsame.mono (by decide) (by decide)⟩
  · show Steps p.tables e below (s₁.setTop (mkF m 28 #[.val (.long p1), .second, .val (.long ((((p1 ^^^ ((p1.toUInt64 >>> ((30 : Int32) &&& 0x3f).toInt64.toUInt64).toInt64)) * (-4658895280553007687 : Int64)) ^^^ ((((p1 ^^^ ((p1.toUInt64 >>> ((30 : Int32) &&& 0x3f).toInt64.toUInt64).toInt64)) * (-4658895280553007687 : Int64)).toUInt64 >>> ((27 : Int32) &&& 0x3f).toInt64.toUInt64).toInt64)) * (-7723592293110705685 : Int64))), .second] [(.long (((((p1 ^^^ ((p1.toUInt64 >>> ((30 : Int32) &&& 0x3f).toInt64.toUInt64).toInt64)) * (-4658895280553007687 : Int64)) ^^^ ((((p1 ^^^ ((p1.toUInt64 >>> ((30 : Int32) &&& 0x3f).toInt64.toUInt64).toInt64)) * (-4658895280553007687 : Int64)).toUInt64 >>> ((27 : Int32) &&& 0x3f).toInt64.toUInt64).toInt64)) * (-7723592293110705685 : Int64)) ^^^ ((((((p1 ^^^ ((p1.toUInt64 >>> ((30 : Int32) &&& 0x3f).toInt64.toUInt64).toInt64)) * (-4658895280553007687 : Int64)) ^^^ ((((p1 ^^^ ((p1.toUInt64 >>> ((30 : Int32) &&& 0x3f).toInt64.toUInt64).toInt64)) * (-4658895280553007687 : Int64)).toUInt64 >>> ((27 : Int32) &&& 0x3f).toInt64.toUInt64).toInt64)) * (-7723592293110705685 : Int64)).toUInt64 >>> ((31 : Int32) &&& 0x3f).toInt64.toUInt64).toInt64)))])) _
    exact retOut X0 hx (t := .long) (i := .lreturn) Bd.returns rfl (Or.inr (Or.inl ⟨rfl, rfl, _, rfl⟩)) (hb hby own_d_prog_33_method_2_code_28) hr
  · show QP (.long (own_mix p1)) h0 n0 _ s₁.heap _
    rw [e0]
    exact ⟨rfl, N0, rfl⟩
theorem own_ef_rm3 (m : MethodId) (y0 : Int64) (y1 : Int32) : entryFrame m #[(.long y0), (.int y1)] 3 = mkF m 0 #[.val (.long y0), .second, .val (.int y1)] [] := by first | (simp [entryFrame, mkF, argsToLocals, Value.category]; done) | rfl
set_option maxRecDepth 65536 in
set_option maxHeartbeats 40000000 in
theorem rm3 (l : Launch) (Z : State) (a0 : Array Value) (hw : ∀ d ∈ tables_1, d.before a0 Z = true) (ws : List Jvm.Cond) (p1 : Int64) (p2 : Int32) (h0 : Heap) (n0 : Nat) (Z0 : n0 ≤ h0.size)  :
    MetFree l (⟨"com/example/elderflower/elderflower/HashingMixPinLaw", "unXorShift", "(JI)J"⟩ : MethodName) (head1 (Jvm.Cond.code (⟨"com/example/elderflower/elderflower/HashingMixPinLaw", "unXorShift", "(JI)J"⟩ : MethodName) method_3_code 3 (some .long) :: ws) ({ frames := 0, cells := 0, slots := 0, locals := 0 } : Room)) (fun a U => a = #[(.long p1), (.int p2)] ∧ Z.Warmed39 U.vm ∧ U.heap = h0) (fun _ _ _ _ _ => True) (fun _ U o U' => ∃ v L, o = .returned v ∧ QP (.long (own_unx p1 p2)) h0 n0 v U'.heap L ∧ FrameEnd U o U' L ({ frames := 0, cells := 0, slots := 0, locals := 0 } : Room).cells ({ frames := 0, cells := 0, slots := 0, locals := 0 } : Room).slots) := by
  refine MetFree.of_bodySF (plainFor_of_name own_pn1) hisR ?_
  intro p e s m args below meth c s₁ Bd hml0 hP hK
  obtain ⟨rfl, hZ, hh⟩ := hP
  have hx := Bd.exec
  have hby := Bd.bytes
  have hml : c.maxLocals = 3 := hml0
  have hown : s.vm.findClass "com/example/elderflower/elderflower/HashingMixPinLaw" = some m.cls := findClass_of_methodNamed Bd.named
  have hnm := (name_of_methodNamed Bd.named Bd.method).1
  have X0 : Stand p l e ({ frames := 0, cells := 0, slots := 0, locals := 0 } : Room) s m #[(.long p1), (.int p2)] below meth c s₁ [] 0 0 := Stand.of_body Bd
  have e0 : s₁.heap = h0 := by rw [← hh, Bd.state]; rfl
  have N0 := Fr.nil n0
  have pre0 : ∀ t, Steps p.tables e below (s₁.setTop (mkF m 0 #[.val (.long p1), .second, .val (.int p2)] [])) t → Steps p.tables e below (s₁.setTop (entryFrame m #[(.long p1), (.int p2)] 3)) t := fun t k => castTop (own_ef_rm3 m p1 p2) k
  have pre1 : ∀ t, Steps p.tables e below (s₁.setTop (mkF m 11 #[.val (.long p1), .second, .val (.int p2)] [(.long ((p1 ^^^ ((p1.toUInt64 >>> (p2 &&& 0x3f).toInt64.toUInt64).toInt64)) ^^^ ((p1.toUInt64 >>> (((2 : Int32) * p2) &&& 0x3f).toInt64.toUInt64).toInt64)))])) t → Steps p.tables e below (s₁.setTop (entryFrame m #[(.long p1), (.int p2)] 3)) t := fun t k => pre0 t (by
    show Steps p.tables e below (s₁.setTop (mkF m 0 #[.val (.long p1), .second, .val (.int p2)] [])) _
    refine XS.lloadN X0.here hx rfl (hb hby own_d_method_3_code_0) rfl ?_
    show Steps p.tables e below (s₁.setTop (mkF m 1 #[.val (.long p1), .second, .val (.int p2)] [(.long p1)])) _
    refine XS.lloadN X0.here hx rfl (hb hby own_d_method_3_code_1) rfl ?_
    show Steps p.tables e below (s₁.setTop (mkF m 2 #[.val (.long p1), .second, .val (.int p2)] [(.long p1), (.long p1)])) _
    refine XS.iloadN X0.here hx rfl (hb hby own_d_method_3_code_2) rfl ?_
    show Steps p.tables e below (s₁.setTop (mkF m 3 #[.val (.long p1), .second, .val (.int p2)] [(.int p2), (.long p1), (.long p1)])) _
    refine XS.lushr X0.here hx rfl (hb hby own_d_method_3_code_3) rfl ?_
    show Steps p.tables e below (s₁.setTop (mkF m 4 #[.val (.long p1), .second, .val (.int p2)] [(.long ((p1.toUInt64 >>> (p2 &&& 0x3f).toInt64.toUInt64).toInt64)), (.long p1)])) _
    refine XS.lxor X0.here hx rfl (hb hby own_d_method_3_code_4) rfl ?_
    show Steps p.tables e below (s₁.setTop (mkF m 5 #[.val (.long p1), .second, .val (.int p2)] [(.long (p1 ^^^ ((p1.toUInt64 >>> (p2 &&& 0x3f).toInt64.toUInt64).toInt64)))])) _
    refine XS.lloadN X0.here hx rfl (hb hby own_d_method_3_code_5) rfl ?_
    show Steps p.tables e below (s₁.setTop (mkF m 6 #[.val (.long p1), .second, .val (.int p2)] [(.long p1), (.long (p1 ^^^ ((p1.toUInt64 >>> (p2 &&& 0x3f).toInt64.toUInt64).toInt64)))])) _
    refine XS.iconst X0.here hx rfl (hb hby own_d_method_3_code_6) ?_
    show Steps p.tables e below (s₁.setTop (mkF m 7 #[.val (.long p1), .second, .val (.int p2)] [(.int (2 : Int32)), (.long p1), (.long (p1 ^^^ ((p1.toUInt64 >>> (p2 &&& 0x3f).toInt64.toUInt64).toInt64)))])) _
    refine XS.iloadN X0.here hx rfl (hb hby own_d_method_3_code_7) rfl ?_
    show Steps p.tables e below (s₁.setTop (mkF m 8 #[.val (.long p1), .second, .val (.int p2)] [(.int p2), (.int (2 : Int32)), (.long p1), (.long (p1 ^^^ ((p1.toUInt64 >>> (p2 &&& 0x3f).toInt64.toUInt64).toInt64)))])) _
    refine XS.imul X0.here hx rfl (hb hby own_d_method_3_code_8) rfl ?_
    show Steps p.tables e below (s₁.setTop (mkF m 9 #[.val (.long p1), .second, .val (.int p2)] [(.int ((2 : Int32) * p2)), (.long p1), (.long (p1 ^^^ ((p1.toUInt64 >>> (p2 &&& 0x3f).toInt64.toUInt64).toInt64)))])) _
    refine XS.lushr X0.here hx rfl (hb hby own_d_method_3_code_9) rfl ?_
    show Steps p.tables e below (s₁.setTop (mkF m 10 #[.val (.long p1), .second, .val (.int p2)] [(.long ((p1.toUInt64 >>> (((2 : Int32) * p2) &&& 0x3f).toInt64.toUInt64).toInt64)), (.long (p1 ^^^ ((p1.toUInt64 >>> (p2 &&& 0x3f).toInt64.toUInt64).toInt64)))])) _
    refine XS.lxor X0.here hx rfl (hb hby own_d_method_3_code_10) rfl ?_
    exact k)
  obtain ⟨fs, hr, hrun, hended, hW, hsame⟩ := X0.leave (v := some (.long ((p1 ^^^ ((p1.toUInt64 >>> (p2 &&& 0x3f).toInt64.toUInt64).toInt64)) ^^^ ((p1.toUInt64 >>> (((2 : Int32) * p2) &&& 0x3f).toInt64.toUInt64).toInt64)))) (fun h => by rw [Bd.returns] at h; cases h)
  refine ⟨_, _, pre1 _ ?_, hrun, hended, _, _, rfl, ?_, ⟨_, rfl⟩, hW, hsame.mono (by decide) (by decide)⟩
  · show Steps p.tables e below (s₁.setTop (mkF m 11 #[.val (.long p1), .second, .val (.int p2)] [(.long ((p1 ^^^ ((p1.toUInt64 >>> (p2 &&& 0x3f).toInt64.toUInt64).toInt64)) ^^^ ((p1.toUInt64 >>> (((2 : Int32) * p2) &&& 0x3f).toInt64.toUInt64).toInt64)))])) _
    exact retOut X0 hx (t := .long) (i := .lreturn) Bd.returns rfl (Or.inr (Or.inl ⟨rfl, rfl, _, rfl⟩)) (hb hby own_d_method_3_code_11) hr
  · show QP (.long (own_unx p1 p2)) h0 n0 _ s₁.heap _
    rw [e0]
    exact ⟨rfl, N0, rfl⟩
theorem own_ef_rm4a (m : MethodId) (y0 : Int64) : entryFrame m #[(.long y0)] 4 = mkF m 0 #[.val (.long y0), .second, .unset, .unset] [] := by first | (simp [entryFrame, mkF, argsToLocals, Value.category]; done) | rfl
set_option maxRecDepth 65536 in
set_option maxHeartbeats 40000000 in
theorem rm4a (l : Launch) (Z : State) (a0 : Array Value) (hw : ∀ d ∈ tables_1, d.before a0 Z = true) (ws : List Jvm.Cond)  (h0 : Heap) (n0 : Nat) (Z0 : n0 ≤ h0.size)  :
    MetFree l (⟨"com/example/elderflower/elderflower/HashingMixPinLaw", "inverse", "(J)J"⟩ : MethodName) (head1 (Jvm.Cond.code (⟨"com/example/elderflower/elderflower/HashingMixPinLaw", "inverse", "(J)J"⟩ : MethodName) method_2_code 4 (some .long) :: ws) ({ frames := 0, cells := 0, slots := 0, locals := 0 } : Room)) (fun a U => a = #[(.long (-4658895280553007687 : Int64))] ∧ Z.Warmed39 U.vm ∧ U.heap = h0) (fun _ _ _ _ _ => True) (fun _ U o U' => ∃ v L, o = .returned v ∧ QP (.long (-7575587736534282103 : Int64)) h0 n0 v U'.heap L ∧ FrameEnd U o U' L ({ frames := 0, cells := 0, slots := 0, locals := 0 } : Room).cells ({ frames := 0, cells := 0, slots := 0, locals := 0 } : Room).slots) := by
  refine MetFree.of_bodySF (plainFor_of_name own_pn1) hisR ?_
  intro p e s m args below meth c s₁ Bd hml0 hP hK
  obtain ⟨rfl, hZ, hh⟩ := hP
  have hx := Bd.exec
  have hby := Bd.bytes
  have hml : c.maxLocals = 4 := hml0
  have hown : s.vm.findClass "com/example/elderflower/elderflower/HashingMixPinLaw" = some m.cls := findClass_of_methodNamed Bd.named
  have hnm := (name_of_methodNamed Bd.named Bd.method).1
  have X0 : Stand p l e ({ frames := 0, cells := 0, slots := 0, locals := 0 } : Room) s m #[(.long (-4658895280553007687 : Int64))] below meth c s₁ [] 0 0 := Stand.of_body Bd
  have e0 : s₁.heap = h0 := by rw [← hh, Bd.state]; rfl
  have N0 := Fr.nil n0
  have pre0 : ∀ t, Steps p.tables e below (s₁.setTop (mkF m 0 #[.val (.long (-4658895280553007687 : Int64)), .second, .unset, .unset] [])) t → Steps p.tables e below (s₁.setTop (entryFrame m #[(.long (-4658895280553007687 : Int64))] 4)) t := fun t k => castTop (own_ef_rm4a m (-4658895280553007687 : Int64)) k
  have fold1 : ((-4658895280553007687 : Int64) * (-4658895280553007687 : Int64)) = (-7869164637350232143 : Int64) := by decide +kernel
  have fold2 : ((2 : Int64) - (-7869164637350232143 : Int64)) = (7869164637350232145 : Int64) := by decide +kernel
  have fold3 : ((-4658895280553007687 : Int64) * (7869164637350232145 : Int64)) = (-1950367960681664631 : Int64) := by decide +kernel
  have fold4 : ((-4658895280553007687 : Int64) * (-1950367960681664631 : Int64)) = (6245355300859143937 : Int64) := by decide +kernel
  have fold5 : ((2 : Int64) - (6245355300859143937 : Int64)) = (-6245355300859143935 : Int64) := by decide +kernel
  have fold6 : ((-1950367960681664631 : Int64) * (-6245355300859143935 : Int64)) = (2203917495349842057 : Int64) := by decide +kernel
  have fold7 : ((-4658895280553007687 : Int64) * (2203917495349842057 : Int64)) = (1070253961011724289 : Int64) := by decide +kernel
  have fold8 : ((2 : Int64) - (1070253961011724289 : Int64)) = (-1070253961011724287 : Int64) := by decide +kernel
  have fold9 : ((2203917495349842057 : Int64) * (-1070253961011724287 : Int64)) = (2756543469426151561 : Int64) := by decide +kernel
  have fold10 : ((-4658895280553007687 : Int64) * (2756543469426151561 : Int64)) = (8638830007231184897 : Int64) := by decide +kernel
  have fold11 : ((2 : Int64) - (8638830007231184897 : Int64)) = (-8638830007231184895 : Int64) := by decide +kernel
  have fold12 : ((2756543469426151561 : Int64) * (-8638830007231184895 : Int64)) = (-7575587736534282103 : Int64) := by decide +kernel
  have fold13 : ((-4658895280553007687 : Int64) * (-7575587736534282103 : Int64)) = (1 : Int64) := by decide +kernel
  have fold14 : ((2 : Int64) - (1 : Int64)) = (1 : Int64) := by decide +kernel
  have fold15 : ((-7575587736534282103 : Int64) * (1 : Int64)) = (-7575587736534282103 : Int64) := by decide +kernel
  have pre16 : ∀ t, Steps p.tables e below (s₁.setTop (mkF m 53 #[.val (.long (-4658895280553007687 : Int64)), .second, .val (.long (-7575587736534282103 : Int64)), .second] [(.long (-7575587736534282103 : Int64))])) t → Steps p.tables e below (s₁.setTop (entryFrame m #[(.long (-4658895280553007687 : Int64))] 4)) t := fun t k => pre0 t (by
    show Steps p.tables e below (s₁.setTop (mkF m 0 #[.val (.long (-4658895280553007687 : Int64)), .second, .unset, .unset] [])) _
    refine XS.lloadN X0.here hx rfl (hb hby own_d_method_2_code_0) rfl ?_
    show Steps p.tables e below (s₁.setTop (mkF m 1 #[.val (.long (-4658895280553007687 : Int64)), .second, .unset, .unset] [(.long (-4658895280553007687 : Int64))])) _
    refine XS.lstoreN X0.here hx rfl (hb hby own_d_method_2_code_1) rfl (l' := #[.val (.long (-4658895280553007687 : Int64)), .second, .val (.long (-4658895280553007687 : Int64)), .second]) rfl ?_
    show Steps p.tables e below (s₁.setTop (mkF m 2 #[.val (.long (-4658895280553007687 : Int64)), .second, .val (.long (-4658895280553007687 : Int64)), .second] [])) _
    refine XS.lloadN X0.here hx rfl (hb hby own_d_method_2_code_2) rfl ?_
    show Steps p.tables e below (s₁.setTop (mkF m 3 #[.val (.long (-4658895280553007687 : Int64)), .second, .val (.long (-4658895280553007687 : Int64)), .second] [(.long (-4658895280553007687 : Int64))])) _
    refine X0.ldc2Long hx hown (mvT hZ (hw _ (List.mem_of_getElem? (i := 17) rfl))) (g := (mkF m 3 #[.val (.long (-4658895280553007687 : Int64)), .second, .val (.long (-4658895280553007687 : Int64)), .second] [(.long (-4658895280553007687 : Int64))])) rfl (hb hby own_d_method_2_code_3) _ ?_
    show Steps p.tables e below (s₁.setTop (mkF m 6 #[.val (.long (-4658895280553007687 : Int64)), .second, .val (.long (-4658895280553007687 : Int64)), .second] [(.long (2 : Int64)), (.long (-4658895280553007687 : Int64))])) _
    refine XS.lloadN X0.here hx rfl (hb hby own_d_method_2_code_6) rfl ?_
    show Steps p.tables e below (s₁.setTop (mkF m 7 #[.val (.long (-4658895280553007687 : Int64)), .second, .val (.long (-4658895280553007687 : Int64)), .second] [(.long (-4658895280553007687 : Int64)), (.long (2 : Int64)), (.long (-4658895280553007687 : Int64))])) _
    refine XS.lloadN X0.here hx rfl (hb hby own_d_method_2_code_7) rfl ?_
    show Steps p.tables e below (s₁.setTop (mkF m 8 #[.val (.long (-4658895280553007687 : Int64)), .second, .val (.long (-4658895280553007687 : Int64)), .second] [(.long (-4658895280553007687 : Int64)), (.long (-4658895280553007687 : Int64)), (.long (2 : Int64)), (.long (-4658895280553007687 : Int64))])) _
    refine XS.lmul X0.here hx rfl (hb hby own_d_method_2_code_8) rfl ?_
    show Steps p.tables e below (s₁.setTop (mkF m 9 #[.val (.long (-4658895280553007687 : Int64)), .second, .val (.long (-4658895280553007687 : Int64)), .second] [(.long ((-4658895280553007687 : Int64) * (-4658895280553007687 : Int64))), (.long (2 : Int64)), (.long (-4658895280553007687 : Int64))])) _
    rw [fold1]
    show Steps p.tables e below (s₁.setTop (mkF m 9 #[.val (.long (-4658895280553007687 : Int64)), .second, .val (.long (-4658895280553007687 : Int64)), .second] [(.long (-7869164637350232143 : Int64)), (.long (2 : Int64)), (.long (-4658895280553007687 : Int64))])) _
    refine XS.lsub X0.here hx rfl (hb hby own_d_method_2_code_9) rfl ?_
    show Steps p.tables e below (s₁.setTop (mkF m 10 #[.val (.long (-4658895280553007687 : Int64)), .second, .val (.long (-4658895280553007687 : Int64)), .second] [(.long ((2 : Int64) - (-7869164637350232143 : Int64))), (.long (-4658895280553007687 : Int64))])) _
    rw [fold2]
    show Steps p.tables e below (s₁.setTop (mkF m 10 #[.val (.long (-4658895280553007687 : Int64)), .second, .val (.long (-4658895280553007687 : Int64)), .second] [(.long (7869164637350232145 : Int64)), (.long (-4658895280553007687 : Int64))])) _
    refine XS.lmul X0.here hx rfl (hb hby own_d_method_2_code_10) rfl ?_
    show Steps p.tables e below (s₁.setTop (mkF m 11 #[.val (.long (-4658895280553007687 : Int64)), .second, .val (.long (-4658895280553007687 : Int64)), .second] [(.long ((-4658895280553007687 : Int64) * (7869164637350232145 : Int64)))])) _
    rw [fold3]
    show Steps p.tables e below (s₁.setTop (mkF m 11 #[.val (.long (-4658895280553007687 : Int64)), .second, .val (.long (-4658895280553007687 : Int64)), .second] [(.long (-1950367960681664631 : Int64))])) _
    refine XS.lstoreN X0.here hx rfl (hb hby own_d_method_2_code_11) rfl (l' := #[.val (.long (-4658895280553007687 : Int64)), .second, .val (.long (-1950367960681664631 : Int64)), .second]) rfl ?_
    show Steps p.tables e below (s₁.setTop (mkF m 12 #[.val (.long (-4658895280553007687 : Int64)), .second, .val (.long (-1950367960681664631 : Int64)), .second] [])) _
    refine XS.lloadN X0.here hx rfl (hb hby own_d_method_2_code_12) rfl ?_
    show Steps p.tables e below (s₁.setTop (mkF m 13 #[.val (.long (-4658895280553007687 : Int64)), .second, .val (.long (-1950367960681664631 : Int64)), .second] [(.long (-1950367960681664631 : Int64))])) _
    refine X0.ldc2Long hx hown (mvT hZ (hw _ (List.mem_of_getElem? (i := 17) rfl))) (g := (mkF m 13 #[.val (.long (-4658895280553007687 : Int64)), .second, .val (.long (-1950367960681664631 : Int64)), .second] [(.long (-1950367960681664631 : Int64))])) rfl (hb hby own_d_method_2_code_13) _ ?_
    show Steps p.tables e below (s₁.setTop (mkF m 16 #[.val (.long (-4658895280553007687 : Int64)), .second, .val (.long (-1950367960681664631 : Int64)), .second] [(.long (2 : Int64)), (.long (-1950367960681664631 : Int64))])) _
    refine XS.lloadN X0.here hx rfl (hb hby own_d_method_2_code_16) rfl ?_
    show Steps p.tables e below (s₁.setTop (mkF m 17 #[.val (.long (-4658895280553007687 : Int64)), .second, .val (.long (-1950367960681664631 : Int64)), .second] [(.long (-4658895280553007687 : Int64)), (.long (2 : Int64)), (.long (-1950367960681664631 : Int64))])) _
    refine XS.lloadN X0.here hx rfl (hb hby own_d_method_2_code_17) rfl ?_
    show Steps p.tables e below (s₁.setTop (mkF m 18 #[.val (.long (-4658895280553007687 : Int64)), .second, .val (.long (-1950367960681664631 : Int64)), .second] [(.long (-1950367960681664631 : Int64)), (.long (-4658895280553007687 : Int64)), (.long (2 : Int64)), (.long (-1950367960681664631 : Int64))])) _
    refine XS.lmul X0.here hx rfl (hb hby own_d_method_2_code_18) rfl ?_
    show Steps p.tables e below (s₁.setTop (mkF m 19 #[.val (.long (-4658895280553007687 : Int64)), .second, .val (.long (-1950367960681664631 : Int64)), .second] [(.long ((-4658895280553007687 : Int64) * (-1950367960681664631 : Int64))), (.long (2 : Int64)), (.long (-1950367960681664631 : Int64))])) _
    rw [fold4]
    show Steps p.tables e below (s₁.setTop (mkF m 19 #[.val (.long (-4658895280553007687 : Int64)), .second, .val (.long (-1950367960681664631 : Int64)), .second] [(.long (6245355300859143937 : Int64)), (.long (2 : Int64)), (.long (-1950367960681664631 : Int64))])) _
    refine XS.lsub X0.here hx rfl (hb hby own_d_method_2_code_19) rfl ?_
    show Steps p.tables e below (s₁.setTop (mkF m 20 #[.val (.long (-4658895280553007687 : Int64)), .second, .val (.long (-1950367960681664631 : Int64)), .second] [(.long ((2 : Int64) - (6245355300859143937 : Int64))), (.long (-1950367960681664631 : Int64))])) _
    rw [fold5]
    show Steps p.tables e below (s₁.setTop (mkF m 20 #[.val (.long (-4658895280553007687 : Int64)), .second, .val (.long (-1950367960681664631 : Int64)), .second] [(.long (-6245355300859143935 : Int64)), (.long (-1950367960681664631 : Int64))])) _
    refine XS.lmul X0.here hx rfl (hb hby own_d_method_2_code_20) rfl ?_
    show Steps p.tables e below (s₁.setTop (mkF m 21 #[.val (.long (-4658895280553007687 : Int64)), .second, .val (.long (-1950367960681664631 : Int64)), .second] [(.long ((-1950367960681664631 : Int64) * (-6245355300859143935 : Int64)))])) _
    rw [fold6]
    show Steps p.tables e below (s₁.setTop (mkF m 21 #[.val (.long (-4658895280553007687 : Int64)), .second, .val (.long (-1950367960681664631 : Int64)), .second] [(.long (2203917495349842057 : Int64))])) _
    refine XS.lstoreN X0.here hx rfl (hb hby own_d_method_2_code_21) rfl (l' := #[.val (.long (-4658895280553007687 : Int64)), .second, .val (.long (2203917495349842057 : Int64)), .second]) rfl ?_
    show Steps p.tables e below (s₁.setTop (mkF m 22 #[.val (.long (-4658895280553007687 : Int64)), .second, .val (.long (2203917495349842057 : Int64)), .second] [])) _
    refine XS.lloadN X0.here hx rfl (hb hby own_d_method_2_code_22) rfl ?_
    show Steps p.tables e below (s₁.setTop (mkF m 23 #[.val (.long (-4658895280553007687 : Int64)), .second, .val (.long (2203917495349842057 : Int64)), .second] [(.long (2203917495349842057 : Int64))])) _
    refine X0.ldc2Long hx hown (mvT hZ (hw _ (List.mem_of_getElem? (i := 17) rfl))) (g := (mkF m 23 #[.val (.long (-4658895280553007687 : Int64)), .second, .val (.long (2203917495349842057 : Int64)), .second] [(.long (2203917495349842057 : Int64))])) rfl (hb hby own_d_method_2_code_23) _ ?_
    show Steps p.tables e below (s₁.setTop (mkF m 26 #[.val (.long (-4658895280553007687 : Int64)), .second, .val (.long (2203917495349842057 : Int64)), .second] [(.long (2 : Int64)), (.long (2203917495349842057 : Int64))])) _
    refine XS.lloadN X0.here hx rfl (hb hby own_d_method_2_code_26) rfl ?_
    show Steps p.tables e below (s₁.setTop (mkF m 27 #[.val (.long (-4658895280553007687 : Int64)), .second, .val (.long (2203917495349842057 : Int64)), .second] [(.long (-4658895280553007687 : Int64)), (.long (2 : Int64)), (.long (2203917495349842057 : Int64))])) _
    refine XS.lloadN X0.here hx rfl (hb hby own_d_method_2_code_27) rfl ?_
    show Steps p.tables e below (s₁.setTop (mkF m 28 #[.val (.long (-4658895280553007687 : Int64)), .second, .val (.long (2203917495349842057 : Int64)), .second] [(.long (2203917495349842057 : Int64)), (.long (-4658895280553007687 : Int64)), (.long (2 : Int64)), (.long (2203917495349842057 : Int64))])) _
    refine XS.lmul X0.here hx rfl (hb hby own_d_method_2_code_28) rfl ?_
    show Steps p.tables e below (s₁.setTop (mkF m 29 #[.val (.long (-4658895280553007687 : Int64)), .second, .val (.long (2203917495349842057 : Int64)), .second] [(.long ((-4658895280553007687 : Int64) * (2203917495349842057 : Int64))), (.long (2 : Int64)), (.long (2203917495349842057 : Int64))])) _
    rw [fold7]
    show Steps p.tables e below (s₁.setTop (mkF m 29 #[.val (.long (-4658895280553007687 : Int64)), .second, .val (.long (2203917495349842057 : Int64)), .second] [(.long (1070253961011724289 : Int64)), (.long (2 : Int64)), (.long (2203917495349842057 : Int64))])) _
    refine XS.lsub X0.here hx rfl (hb hby own_d_method_2_code_29) rfl ?_
    show Steps p.tables e below (s₁.setTop (mkF m 30 #[.val (.long (-4658895280553007687 : Int64)), .second, .val (.long (2203917495349842057 : Int64)), .second] [(.long ((2 : Int64) - (1070253961011724289 : Int64))), (.long (2203917495349842057 : Int64))])) _
    rw [fold8]
    show Steps p.tables e below (s₁.setTop (mkF m 30 #[.val (.long (-4658895280553007687 : Int64)), .second, .val (.long (2203917495349842057 : Int64)), .second] [(.long (-1070253961011724287 : Int64)), (.long (2203917495349842057 : Int64))])) _
    refine XS.lmul X0.here hx rfl (hb hby own_d_method_2_code_30) rfl ?_
    show Steps p.tables e below (s₁.setTop (mkF m 31 #[.val (.long (-4658895280553007687 : Int64)), .second, .val (.long (2203917495349842057 : Int64)), .second] [(.long ((2203917495349842057 : Int64) * (-1070253961011724287 : Int64)))])) _
    rw [fold9]
    show Steps p.tables e below (s₁.setTop (mkF m 31 #[.val (.long (-4658895280553007687 : Int64)), .second, .val (.long (2203917495349842057 : Int64)), .second] [(.long (2756543469426151561 : Int64))])) _
    refine XS.lstoreN X0.here hx rfl (hb hby own_d_method_2_code_31) rfl (l' := #[.val (.long (-4658895280553007687 : Int64)), .second, .val (.long (2756543469426151561 : Int64)), .second]) rfl ?_
    show Steps p.tables e below (s₁.setTop (mkF m 32 #[.val (.long (-4658895280553007687 : Int64)), .second, .val (.long (2756543469426151561 : Int64)), .second] [])) _
    refine XS.lloadN X0.here hx rfl (hb hby own_d_method_2_code_32) rfl ?_
    show Steps p.tables e below (s₁.setTop (mkF m 33 #[.val (.long (-4658895280553007687 : Int64)), .second, .val (.long (2756543469426151561 : Int64)), .second] [(.long (2756543469426151561 : Int64))])) _
    refine X0.ldc2Long hx hown (mvT hZ (hw _ (List.mem_of_getElem? (i := 17) rfl))) (g := (mkF m 33 #[.val (.long (-4658895280553007687 : Int64)), .second, .val (.long (2756543469426151561 : Int64)), .second] [(.long (2756543469426151561 : Int64))])) rfl (hb hby own_d_method_2_code_33) _ ?_
    show Steps p.tables e below (s₁.setTop (mkF m 36 #[.val (.long (-4658895280553007687 : Int64)), .second, .val (.long (2756543469426151561 : Int64)), .second] [(.long (2 : Int64)), (.long (2756543469426151561 : Int64))])) _
    refine XS.lloadN X0.here hx rfl (hb hby own_d_method_2_code_36) rfl ?_
    show Steps p.tables e below (s₁.setTop (mkF m 37 #[.val (.long (-4658895280553007687 : Int64)), .second, .val (.long (2756543469426151561 : Int64)), .second] [(.long (-4658895280553007687 : Int64)), (.long (2 : Int64)), (.long (2756543469426151561 : Int64))])) _
    refine XS.lloadN X0.here hx rfl (hb hby own_d_method_2_code_37) rfl ?_
    show Steps p.tables e below (s₁.setTop (mkF m 38 #[.val (.long (-4658895280553007687 : Int64)), .second, .val (.long (2756543469426151561 : Int64)), .second] [(.long (2756543469426151561 : Int64)), (.long (-4658895280553007687 : Int64)), (.long (2 : Int64)), (.long (2756543469426151561 : Int64))])) _
    refine XS.lmul X0.here hx rfl (hb hby own_d_method_2_code_38) rfl ?_
    show Steps p.tables e below (s₁.setTop (mkF m 39 #[.val (.long (-4658895280553007687 : Int64)), .second, .val (.long (2756543469426151561 : Int64)), .second] [(.long ((-4658895280553007687 : Int64) * (2756543469426151561 : Int64))), (.long (2 : Int64)), (.long (2756543469426151561 : Int64))])) _
    rw [fold10]
    show Steps p.tables e below (s₁.setTop (mkF m 39 #[.val (.long (-4658895280553007687 : Int64)), .second, .val (.long (2756543469426151561 : Int64)), .second] [(.long (8638830007231184897 : Int64)), (.long (2 : Int64)), (.long (2756543469426151561 : Int64))])) _
    refine XS.lsub X0.here hx rfl (hb hby own_d_method_2_code_39) rfl ?_
    show Steps p.tables e below (s₁.setTop (mkF m 40 #[.val (.long (-4658895280553007687 : Int64)), .second, .val (.long (2756543469426151561 : Int64)), .second] [(.long ((2 : Int64) - (8638830007231184897 : Int64))), (.long (2756543469426151561 : Int64))])) _
    rw [fold11]
    show Steps p.tables e below (s₁.setTop (mkF m 40 #[.val (.long (-4658895280553007687 : Int64)), .second, .val (.long (2756543469426151561 : Int64)), .second] [(.long (-8638830007231184895 : Int64)), (.long (2756543469426151561 : Int64))])) _
    refine XS.lmul X0.here hx rfl (hb hby own_d_method_2_code_40) rfl ?_
    show Steps p.tables e below (s₁.setTop (mkF m 41 #[.val (.long (-4658895280553007687 : Int64)), .second, .val (.long (2756543469426151561 : Int64)), .second] [(.long ((2756543469426151561 : Int64) * (-8638830007231184895 : Int64)))])) _
    rw [fold12]
    show Steps p.tables e below (s₁.setTop (mkF m 41 #[.val (.long (-4658895280553007687 : Int64)), .second, .val (.long (2756543469426151561 : Int64)), .second] [(.long (-7575587736534282103 : Int64))])) _
    refine XS.lstoreN X0.here hx rfl (hb hby own_d_method_2_code_41) rfl (l' := #[.val (.long (-4658895280553007687 : Int64)), .second, .val (.long (-7575587736534282103 : Int64)), .second]) rfl ?_
    show Steps p.tables e below (s₁.setTop (mkF m 42 #[.val (.long (-4658895280553007687 : Int64)), .second, .val (.long (-7575587736534282103 : Int64)), .second] [])) _
    refine XS.lloadN X0.here hx rfl (hb hby own_d_method_2_code_42) rfl ?_
    show Steps p.tables e below (s₁.setTop (mkF m 43 #[.val (.long (-4658895280553007687 : Int64)), .second, .val (.long (-7575587736534282103 : Int64)), .second] [(.long (-7575587736534282103 : Int64))])) _
    refine X0.ldc2Long hx hown (mvT hZ (hw _ (List.mem_of_getElem? (i := 17) rfl))) (g := (mkF m 43 #[.val (.long (-4658895280553007687 : Int64)), .second, .val (.long (-7575587736534282103 : Int64)), .second] [(.long (-7575587736534282103 : Int64))])) rfl (hb hby own_d_method_2_code_43) _ ?_
    show Steps p.tables e below (s₁.setTop (mkF m 46 #[.val (.long (-4658895280553007687 : Int64)), .second, .val (.long (-7575587736534282103 : Int64)), .second] [(.long (2 : Int64)), (.long (-7575587736534282103 : Int64))])) _
    refine XS.lloadN X0.here hx rfl (hb hby own_d_method_2_code_46) rfl ?_
    show Steps p.tables e below (s₁.setTop (mkF m 47 #[.val (.long (-4658895280553007687 : Int64)), .second, .val (.long (-7575587736534282103 : Int64)), .second] [(.long (-4658895280553007687 : Int64)), (.long (2 : Int64)), (.long (-7575587736534282103 : Int64))])) _
    refine XS.lloadN X0.here hx rfl (hb hby own_d_method_2_code_47) rfl ?_
    show Steps p.tables e below (s₁.setTop (mkF m 48 #[.val (.long (-4658895280553007687 : Int64)), .second, .val (.long (-7575587736534282103 : Int64)), .second] [(.long (-7575587736534282103 : Int64)), (.long (-4658895280553007687 : Int64)), (.long (2 : Int64)), (.long (-7575587736534282103 : Int64))])) _
    refine XS.lmul X0.here hx rfl (hb hby own_d_method_2_code_48) rfl ?_
    show Steps p.tables e below (s₁.setTop (mkF m 49 #[.val (.long (-4658895280553007687 : Int64)), .second, .val (.long (-7575587736534282103 : Int64)), .second] [(.long ((-4658895280553007687 : Int64) * (-7575587736534282103 : Int64))), (.long (2 : Int64)), (.long (-7575587736534282103 : Int64))])) _
    rw [fold13]
    show Steps p.tables e below (s₁.setTop (mkF m 49 #[.val (.long (-4658895280553007687 : Int64)), .second, .val (.long (-7575587736534282103 : Int64)), .second] [(.long (1 : Int64)), (.long (2 : Int64)), (.long (-7575587736534282103 : Int64))])) _
    refine XS.lsub X0.here hx rfl (hb hby own_d_method_2_code_49) rfl ?_
    show Steps p.tables e below (s₁.setTop (mkF m 50 #[.val (.long (-4658895280553007687 : Int64)), .second, .val (.long (-7575587736534282103 : Int64)), .second] [(.long ((2 : Int64) - (1 : Int64))), (.long (-7575587736534282103 : Int64))])) _
    rw [fold14]
    show Steps p.tables e below (s₁.setTop (mkF m 50 #[.val (.long (-4658895280553007687 : Int64)), .second, .val (.long (-7575587736534282103 : Int64)), .second] [(.long (1 : Int64)), (.long (-7575587736534282103 : Int64))])) _
    refine XS.lmul X0.here hx rfl (hb hby own_d_method_2_code_50) rfl ?_
    show Steps p.tables e below (s₁.setTop (mkF m 51 #[.val (.long (-4658895280553007687 : Int64)), .second, .val (.long (-7575587736534282103 : Int64)), .second] [(.long ((-7575587736534282103 : Int64) * (1 : Int64)))])) _
    rw [fold15]
    show Steps p.tables e below (s₁.setTop (mkF m 51 #[.val (.long (-4658895280553007687 : Int64)), .second, .val (.long (-7575587736534282103 : Int64)), .second] [(.long (-7575587736534282103 : Int64))])) _
    refine XS.lstoreN X0.here hx rfl (hb hby own_d_method_2_code_51) rfl (l' := #[.val (.long (-4658895280553007687 : Int64)), .second, .val (.long (-7575587736534282103 : Int64)), .second]) rfl ?_
    show Steps p.tables e below (s₁.setTop (mkF m 52 #[.val (.long (-4658895280553007687 : Int64)), .second, .val (.long (-7575587736534282103 : Int64)), .second] [])) _
    refine XS.lloadN X0.here hx rfl (hb hby own_d_method_2_code_52) rfl ?_
    exact k)
  obtain ⟨fs, hr, hrun, hended, hW, hsame⟩ := X0.leave (v := some (.long (-7575587736534282103 : Int64))) (fun h => by rw [Bd.returns] at h; cases h)
  refine ⟨_, _, pre16 _ ?_, hrun, hended, _, _, rfl, ?_, ⟨_, rfl⟩, hW, hsame.mono (by decide) (by decide)⟩
  · show Steps p.tables e below (s₁.setTop (mkF m 53 #[.val (.long (-4658895280553007687 : Int64)), .second, .val (.long (-7575587736534282103 : Int64)), .second] [(.long (-7575587736534282103 : Int64))])) _
    exact retOut X0 hx (t := .long) (i := .lreturn) Bd.returns rfl (Or.inr (Or.inl ⟨rfl, rfl, _, rfl⟩)) (hb hby own_d_method_2_code_53) hr
  · show QP (.long (-7575587736534282103 : Int64)) h0 n0 _ s₁.heap _
    rw [e0]
    exact ⟨rfl, N0, rfl⟩
theorem own_ef_rm4b (m : MethodId) (y0 : Int64) : entryFrame m #[(.long y0)] 4 = mkF m 0 #[.val (.long y0), .second, .unset, .unset] [] := by first | (simp [entryFrame, mkF, argsToLocals, Value.category]; done) | rfl
set_option maxRecDepth 65536 in
set_option maxHeartbeats 40000000 in
theorem rm4b (l : Launch) (Z : State) (a0 : Array Value) (hw : ∀ d ∈ tables_1, d.before a0 Z = true) (ws : List Jvm.Cond)  (h0 : Heap) (n0 : Nat) (Z0 : n0 ≤ h0.size)  :
    MetFree l (⟨"com/example/elderflower/elderflower/HashingMixPinLaw", "inverse", "(J)J"⟩ : MethodName) (head1 (Jvm.Cond.code (⟨"com/example/elderflower/elderflower/HashingMixPinLaw", "inverse", "(J)J"⟩ : MethodName) method_2_code 4 (some .long) :: ws) ({ frames := 0, cells := 0, slots := 0, locals := 0 } : Room)) (fun a U => a = #[(.long (-7723592293110705685 : Int64))] ∧ Z.Warmed39 U.vm ∧ U.heap = h0) (fun _ _ _ _ _ => True) (fun _ U o U' => ∃ v L, o = .returned v ∧ QP (.long (3573116690164977347 : Int64)) h0 n0 v U'.heap L ∧ FrameEnd U o U' L ({ frames := 0, cells := 0, slots := 0, locals := 0 } : Room).cells ({ frames := 0, cells := 0, slots := 0, locals := 0 } : Room).slots) := by
  refine MetFree.of_bodySF (plainFor_of_name own_pn1) hisR ?_
  intro p e s m args below meth c s₁ Bd hml0 hP hK
  obtain ⟨rfl, hZ, hh⟩ := hP
  have hx := Bd.exec
  have hby := Bd.bytes
  have hml : c.maxLocals = 4 := hml0
  have hown : s.vm.findClass "com/example/elderflower/elderflower/HashingMixPinLaw" = some m.cls := findClass_of_methodNamed Bd.named
  have hnm := (name_of_methodNamed Bd.named Bd.method).1
  have X0 : Stand p l e ({ frames := 0, cells := 0, slots := 0, locals := 0 } : Room) s m #[(.long (-7723592293110705685 : Int64))] below meth c s₁ [] 0 0 := Stand.of_body Bd
  have e0 : s₁.heap = h0 := by rw [← hh, Bd.state]; rfl
  have N0 := Fr.nil n0
  have pre0 : ∀ t, Steps p.tables e below (s₁.setTop (mkF m 0 #[.val (.long (-7723592293110705685 : Int64)), .second, .unset, .unset] [])) t → Steps p.tables e below (s₁.setTop (entryFrame m #[(.long (-7723592293110705685 : Int64))] 4)) t := fun t k => castTop (own_ef_rm4b m (-7723592293110705685 : Int64)) k
  have fold1 : ((-7723592293110705685 : Int64) * (-7723592293110705685 : Int64)) = (-2506106533470335559 : Int64) := by decide +kernel
  have fold2 : ((2 : Int64) - (-2506106533470335559 : Int64)) = (2506106533470335561 : Int64) := by decide +kernel
  have fold3 : ((-7723592293110705685 : Int64) * (2506106533470335561 : Int64)) = (-46693593342655997 : Int64) := by decide +kernel
  have fold4 : ((-7723592293110705685 : Int64) * (-46693593342655997 : Int64)) = (2757642028831722433 : Int64) := by decide +kernel
  have fold5 : ((2 : Int64) - (2757642028831722433 : Int64)) = (-2757642028831722431 : Int64) := by decide +kernel
  have fold6 : ((-46693593342655997 : Int64) * (-2757642028831722431 : Int64)) = (-8600650570905985341 : Int64) := by decide +kernel
  have fold7 : ((-7723592293110705685 : Int64) * (-8600650570905985341 : Int64)) = (-637534387594465279 : Int64) := by decide +kernel
  have fold8 : ((2 : Int64) - (-637534387594465279 : Int64)) = (637534387594465281 : Int64) := by decide +kernel
  have fold9 : ((-8600650570905985341 : Int64) * (637534387594465281 : Int64)) = (-8904469923522310461 : Int64) := by decide +kernel
  have fold10 : ((-7723592293110705685 : Int64) * (-8904469923522310461 : Int64)) = (-2485260188148301823 : Int64) := by decide +kernel
  have fold11 : ((2 : Int64) - (-2485260188148301823 : Int64)) = (2485260188148301825 : Int64) := by decide +kernel
  have fold12 : ((-8904469923522310461 : Int64) * (2485260188148301825 : Int64)) = (4274833807104642755 : Int64) := by decide +kernel
  have fold13 : ((-7723592293110705685 : Int64) * (4274833807104642755 : Int64)) = (9042946576783245313 : Int64) := by decide +kernel
  have fold14 : ((2 : Int64) - (9042946576783245313 : Int64)) = (-9042946576783245311 : Int64) := by decide +kernel
  have fold15 : ((4274833807104642755 : Int64) * (-9042946576783245311 : Int64)) = (3573116690164977347 : Int64) := by decide +kernel
  have pre16 : ∀ t, Steps p.tables e below (s₁.setTop (mkF m 53 #[.val (.long (-7723592293110705685 : Int64)), .second, .val (.long (3573116690164977347 : Int64)), .second] [(.long (3573116690164977347 : Int64))])) t → Steps p.tables e below (s₁.setTop (entryFrame m #[(.long (-7723592293110705685 : Int64))] 4)) t := fun t k => pre0 t (by
    show Steps p.tables e below (s₁.setTop (mkF m 0 #[.val (.long (-7723592293110705685 : Int64)), .second, .unset, .unset] [])) _
    refine XS.lloadN X0.here hx rfl (hb hby own_d_method_2_code_0) rfl ?_
    show Steps p.tables e below (s₁.setTop (mkF m 1 #[.val (.long (-7723592293110705685 : Int64)), .second, .unset, .unset] [(.long (-7723592293110705685 : Int64))])) _
    refine XS.lstoreN X0.here hx rfl (hb hby own_d_method_2_code_1) rfl (l' := #[.val (.long (-7723592293110705685 : Int64)), .second, .val (.long (-7723592293110705685 : Int64)), .second]) rfl ?_
    show Steps p.tables e below (s₁.setTop (mkF m 2 #[.val (.long (-7723592293110705685 : Int64)), .second, .val (.long (-7723592293110705685 : Int64)), .second] [])) _
    refine XS.lloadN X0.here hx rfl (hb hby own_d_method_2_code_2) rfl ?_
    show Steps p.tables e below (s₁.setTop (mkF m 3 #[.val (.long (-7723592293110705685 : Int64)), .second, .val (.long (-7723592293110705685 : Int64)), .second] [(.long (-7723592293110705685 : Int64))])) _
    refine X0.ldc2Long hx hown (mvT hZ (hw _ (List.mem_of_getElem? (i := 17) rfl))) (g := (mkF m 3 #[.val (.long (-7723592293110705685 : Int64)), .second, .val (.long (-7723592293110705685 : Int64)), .second] [(.long (-7723592293110705685 : Int64))])) rfl (hb hby own_d_method_2_code_3) _ ?_
    show Steps p.tables e below (s₁.setTop (mkF m 6 #[.val (.long (-7723592293110705685 : Int64)), .second, .val (.long (-7723592293110705685 : Int64)), .second] [(.long (2 : Int64)), (.long (-7723592293110705685 : Int64))])) _
    refine XS.lloadN X0.here hx rfl (hb hby own_d_method_2_code_6) rfl ?_
    show Steps p.tables e below (s₁.setTop (mkF m 7 #[.val (.long (-7723592293110705685 : Int64)), .second, .val (.long (-7723592293110705685 : Int64)), .second] [(.long (-7723592293110705685 : Int64)), (.long (2 : Int64)), (.long (-7723592293110705685 : Int64))])) _
    refine XS.lloadN X0.here hx rfl (hb hby own_d_method_2_code_7) rfl ?_
    show Steps p.tables e below (s₁.setTop (mkF m 8 #[.val (.long (-7723592293110705685 : Int64)), .second, .val (.long (-7723592293110705685 : Int64)), .second] [(.long (-7723592293110705685 : Int64)), (.long (-7723592293110705685 : Int64)), (.long (2 : Int64)), (.long (-7723592293110705685 : Int64))])) _
    refine XS.lmul X0.here hx rfl (hb hby own_d_method_2_code_8) rfl ?_
    show Steps p.tables e below (s₁.setTop (mkF m 9 #[.val (.long (-7723592293110705685 : Int64)), .second, .val (.long (-7723592293110705685 : Int64)), .second] [(.long ((-7723592293110705685 : Int64) * (-7723592293110705685 : Int64))), (.long (2 : Int64)), (.long (-7723592293110705685 : Int64))])) _
    rw [fold1]
    show Steps p.tables e below (s₁.setTop (mkF m 9 #[.val (.long (-7723592293110705685 : Int64)), .second, .val (.long (-7723592293110705685 : Int64)), .second] [(.long (-2506106533470335559 : Int64)), (.long (2 : Int64)), (.long (-7723592293110705685 : Int64))])) _
    refine XS.lsub X0.here hx rfl (hb hby own_d_method_2_code_9) rfl ?_
    show Steps p.tables e below (s₁.setTop (mkF m 10 #[.val (.long (-7723592293110705685 : Int64)), .second, .val (.long (-7723592293110705685 : Int64)), .second] [(.long ((2 : Int64) - (-2506106533470335559 : Int64))), (.long (-7723592293110705685 : Int64))])) _
    rw [fold2]
    show Steps p.tables e below (s₁.setTop (mkF m 10 #[.val (.long (-7723592293110705685 : Int64)), .second, .val (.long (-7723592293110705685 : Int64)), .second] [(.long (2506106533470335561 : Int64)), (.long (-7723592293110705685 : Int64))])) _
    refine XS.lmul X0.here hx rfl (hb hby own_d_method_2_code_10) rfl ?_
    show Steps p.tables e below (s₁.setTop (mkF m 11 #[.val (.long (-7723592293110705685 : Int64)), .second, .val (.long (-7723592293110705685 : Int64)), .second] [(.long ((-7723592293110705685 : Int64) * (2506106533470335561 : Int64)))])) _
    rw [fold3]
    show Steps p.tables e below (s₁.setTop (mkF m 11 #[.val (.long (-7723592293110705685 : Int64)), .second, .val (.long (-7723592293110705685 : Int64)), .second] [(.long (-46693593342655997 : Int64))])) _
    refine XS.lstoreN X0.here hx rfl (hb hby own_d_method_2_code_11) rfl (l' := #[.val (.long (-7723592293110705685 : Int64)), .second, .val (.long (-46693593342655997 : Int64)), .second]) rfl ?_
    show Steps p.tables e below (s₁.setTop (mkF m 12 #[.val (.long (-7723592293110705685 : Int64)), .second, .val (.long (-46693593342655997 : Int64)), .second] [])) _
    refine XS.lloadN X0.here hx rfl (hb hby own_d_method_2_code_12) rfl ?_
    show Steps p.tables e below (s₁.setTop (mkF m 13 #[.val (.long (-7723592293110705685 : Int64)), .second, .val (.long (-46693593342655997 : Int64)), .second] [(.long (-46693593342655997 : Int64))])) _
    refine X0.ldc2Long hx hown (mvT hZ (hw _ (List.mem_of_getElem? (i := 17) rfl))) (g := (mkF m 13 #[.val (.long (-7723592293110705685 : Int64)), .second, .val (.long (-46693593342655997 : Int64)), .second] [(.long (-46693593342655997 : Int64))])) rfl (hb hby own_d_method_2_code_13) _ ?_
    show Steps p.tables e below (s₁.setTop (mkF m 16 #[.val (.long (-7723592293110705685 : Int64)), .second, .val (.long (-46693593342655997 : Int64)), .second] [(.long (2 : Int64)), (.long (-46693593342655997 : Int64))])) _
    refine XS.lloadN X0.here hx rfl (hb hby own_d_method_2_code_16) rfl ?_
    show Steps p.tables e below (s₁.setTop (mkF m 17 #[.val (.long (-7723592293110705685 : Int64)), .second, .val (.long (-46693593342655997 : Int64)), .second] [(.long (-7723592293110705685 : Int64)), (.long (2 : Int64)), (.long (-46693593342655997 : Int64))])) _
    refine XS.lloadN X0.here hx rfl (hb hby own_d_method_2_code_17) rfl ?_
    show Steps p.tables e below (s₁.setTop (mkF m 18 #[.val (.long (-7723592293110705685 : Int64)), .second, .val (.long (-46693593342655997 : Int64)), .second] [(.long (-46693593342655997 : Int64)), (.long (-7723592293110705685 : Int64)), (.long (2 : Int64)), (.long (-46693593342655997 : Int64))])) _
    refine XS.lmul X0.here hx rfl (hb hby own_d_method_2_code_18) rfl ?_
    show Steps p.tables e below (s₁.setTop (mkF m 19 #[.val (.long (-7723592293110705685 : Int64)), .second, .val (.long (-46693593342655997 : Int64)), .second] [(.long ((-7723592293110705685 : Int64) * (-46693593342655997 : Int64))), (.long (2 : Int64)), (.long (-46693593342655997 : Int64))])) _
    rw [fold4]
    show Steps p.tables e below (s₁.setTop (mkF m 19 #[.val (.long (-7723592293110705685 : Int64)), .second, .val (.long (-46693593342655997 : Int64)), .second] [(.long (2757642028831722433 : Int64)), (.long (2 : Int64)), (.long (-46693593342655997 : Int64))])) _
    refine XS.lsub X0.here hx rfl (hb hby own_d_method_2_code_19) rfl ?_
    show Steps p.tables e below (s₁.setTop (mkF m 20 #[.val (.long (-7723592293110705685 : Int64)), .second, .val (.long (-46693593342655997 : Int64)), .second] [(.long ((2 : Int64) - (2757642028831722433 : Int64))), (.long (-46693593342655997 : Int64))])) _
    rw [fold5]
    show Steps p.tables e below (s₁.setTop (mkF m 20 #[.val (.long (-7723592293110705685 : Int64)), .second, .val (.long (-46693593342655997 : Int64)), .second] [(.long (-2757642028831722431 : Int64)), (.long (-46693593342655997 : Int64))])) _
    refine XS.lmul X0.here hx rfl (hb hby own_d_method_2_code_20) rfl ?_
    show Steps p.tables e below (s₁.setTop (mkF m 21 #[.val (.long (-7723592293110705685 : Int64)), .second, .val (.long (-46693593342655997 : Int64)), .second] [(.long ((-46693593342655997 : Int64) * (-2757642028831722431 : Int64)))])) _
    rw [fold6]
    show Steps p.tables e below (s₁.setTop (mkF m 21 #[.val (.long (-7723592293110705685 : Int64)), .second, .val (.long (-46693593342655997 : Int64)), .second] [(.long (-8600650570905985341 : Int64))])) _
    refine XS.lstoreN X0.here hx rfl (hb hby own_d_method_2_code_21) rfl (l' := #[.val (.long (-7723592293110705685 : Int64)), .second, .val (.long (-8600650570905985341 : Int64)), .second]) rfl ?_
    show Steps p.tables e below (s₁.setTop (mkF m 22 #[.val (.long (-7723592293110705685 : Int64)), .second, .val (.long (-8600650570905985341 : Int64)), .second] [])) _
    refine XS.lloadN X0.here hx rfl (hb hby own_d_method_2_code_22) rfl ?_
    show Steps p.tables e below (s₁.setTop (mkF m 23 #[.val (.long (-7723592293110705685 : Int64)), .second, .val (.long (-8600650570905985341 : Int64)), .second] [(.long (-8600650570905985341 : Int64))])) _
    refine X0.ldc2Long hx hown (mvT hZ (hw _ (List.mem_of_getElem? (i := 17) rfl))) (g := (mkF m 23 #[.val (.long (-7723592293110705685 : Int64)), .second, .val (.long (-8600650570905985341 : Int64)), .second] [(.long (-8600650570905985341 : Int64))])) rfl (hb hby own_d_method_2_code_23) _ ?_
    show Steps p.tables e below (s₁.setTop (mkF m 26 #[.val (.long (-7723592293110705685 : Int64)), .second, .val (.long (-8600650570905985341 : Int64)), .second] [(.long (2 : Int64)), (.long (-8600650570905985341 : Int64))])) _
    refine XS.lloadN X0.here hx rfl (hb hby own_d_method_2_code_26) rfl ?_
    show Steps p.tables e below (s₁.setTop (mkF m 27 #[.val (.long (-7723592293110705685 : Int64)), .second, .val (.long (-8600650570905985341 : Int64)), .second] [(.long (-7723592293110705685 : Int64)), (.long (2 : Int64)), (.long (-8600650570905985341 : Int64))])) _
    refine XS.lloadN X0.here hx rfl (hb hby own_d_method_2_code_27) rfl ?_
    show Steps p.tables e below (s₁.setTop (mkF m 28 #[.val (.long (-7723592293110705685 : Int64)), .second, .val (.long (-8600650570905985341 : Int64)), .second] [(.long (-8600650570905985341 : Int64)), (.long (-7723592293110705685 : Int64)), (.long (2 : Int64)), (.long (-8600650570905985341 : Int64))])) _
    refine XS.lmul X0.here hx rfl (hb hby own_d_method_2_code_28) rfl ?_
    show Steps p.tables e below (s₁.setTop (mkF m 29 #[.val (.long (-7723592293110705685 : Int64)), .second, .val (.long (-8600650570905985341 : Int64)), .second] [(.long ((-7723592293110705685 : Int64) * (-8600650570905985341 : Int64))), (.long (2 : Int64)), (.long (-8600650570905985341 : Int64))])) _
    rw [fold7]
    show Steps p.tables e below (s₁.setTop (mkF m 29 #[.val (.long (-7723592293110705685 : Int64)), .second, .val (.long (-8600650570905985341 : Int64)), .second] [(.long (-637534387594465279 : Int64)), (.long (2 : Int64)), (.long (-8600650570905985341 : Int64))])) _
    refine XS.lsub X0.here hx rfl (hb hby own_d_method_2_code_29) rfl ?_
    show Steps p.tables e below (s₁.setTop (mkF m 30 #[.val (.long (-7723592293110705685 : Int64)), .second, .val (.long (-8600650570905985341 : Int64)), .second] [(.long ((2 : Int64) - (-637534387594465279 : Int64))), (.long (-8600650570905985341 : Int64))])) _
    rw [fold8]
    show Steps p.tables e below (s₁.setTop (mkF m 30 #[.val (.long (-7723592293110705685 : Int64)), .second, .val (.long (-8600650570905985341 : Int64)), .second] [(.long (637534387594465281 : Int64)), (.long (-8600650570905985341 : Int64))])) _
    refine XS.lmul X0.here hx rfl (hb hby own_d_method_2_code_30) rfl ?_
    show Steps p.tables e below (s₁.setTop (mkF m 31 #[.val (.long (-7723592293110705685 : Int64)), .second, .val (.long (-8600650570905985341 : Int64)), .second] [(.long ((-8600650570905985341 : Int64) * (637534387594465281 : Int64)))])) _
    rw [fold9]
    show Steps p.tables e below (s₁.setTop (mkF m 31 #[.val (.long (-7723592293110705685 : Int64)), .second, .val (.long (-8600650570905985341 : Int64)), .second] [(.long (-8904469923522310461 : Int64))])) _
    refine XS.lstoreN X0.here hx rfl (hb hby own_d_method_2_code_31) rfl (l' := #[.val (.long (-7723592293110705685 : Int64)), .second, .val (.long (-8904469923522310461 : Int64)), .second]) rfl ?_
    show Steps p.tables e below (s₁.setTop (mkF m 32 #[.val (.long (-7723592293110705685 : Int64)), .second, .val (.long (-8904469923522310461 : Int64)), .second] [])) _
    refine XS.lloadN X0.here hx rfl (hb hby own_d_method_2_code_32) rfl ?_
    show Steps p.tables e below (s₁.setTop (mkF m 33 #[.val (.long (-7723592293110705685 : Int64)), .second, .val (.long (-8904469923522310461 : Int64)), .second] [(.long (-8904469923522310461 : Int64))])) _
    refine X0.ldc2Long hx hown (mvT hZ (hw _ (List.mem_of_getElem? (i := 17) rfl))) (g := (mkF m 33 #[.val (.long (-7723592293110705685 : Int64)), .second, .val (.long (-8904469923522310461 : Int64)), .second] [(.long (-8904469923522310461 : Int64))])) rfl (hb hby own_d_method_2_code_33) _ ?_
    show Steps p.tables e below (s₁.setTop (mkF m 36 #[.val (.long (-7723592293110705685 : Int64)), .second, .val (.long (-8904469923522310461 : Int64)), .second] [(.long (2 : Int64)), (.long (-8904469923522310461 : Int64))])) _
    refine XS.lloadN X0.here hx rfl (hb hby own_d_method_2_code_36) rfl ?_
    show Steps p.tables e below (s₁.setTop (mkF m 37 #[.val (.long (-7723592293110705685 : Int64)), .second, .val (.long (-8904469923522310461 : Int64)), .second] [(.long (-7723592293110705685 : Int64)), (.long (2 : Int64)), (.long (-8904469923522310461 : Int64))])) _
    refine XS.lloadN X0.here hx rfl (hb hby own_d_method_2_code_37) rfl ?_
    show Steps p.tables e below (s₁.setTop (mkF m 38 #[.val (.long (-7723592293110705685 : Int64)), .second, .val (.long (-8904469923522310461 : Int64)), .second] [(.long (-8904469923522310461 : Int64)), (.long (-7723592293110705685 : Int64)), (.long (2 : Int64)), (.long (-8904469923522310461 : Int64))])) _
    refine XS.lmul X0.here hx rfl (hb hby own_d_method_2_code_38) rfl ?_
    show Steps p.tables e below (s₁.setTop (mkF m 39 #[.val (.long (-7723592293110705685 : Int64)), .second, .val (.long (-8904469923522310461 : Int64)), .second] [(.long ((-7723592293110705685 : Int64) * (-8904469923522310461 : Int64))), (.long (2 : Int64)), (.long (-8904469923522310461 : Int64))])) _
    rw [fold10]
    show Steps p.tables e below (s₁.setTop (mkF m 39 #[.val (.long (-7723592293110705685 : Int64)), .second, .val (.long (-8904469923522310461 : Int64)), .second] [(.long (-2485260188148301823 : Int64)), (.long (2 : Int64)), (.long (-8904469923522310461 : Int64))])) _
    refine XS.lsub X0.here hx rfl (hb hby own_d_method_2_code_39) rfl ?_
    show Steps p.tables e below (s₁.setTop (mkF m 40 #[.val (.long (-7723592293110705685 : Int64)), .second, .val (.long (-8904469923522310461 : Int64)), .second] [(.long ((2 : Int64) - (-2485260188148301823 : Int64))), (.long (-8904469923522310461 : Int64))])) _
    rw [fold11]
    show Steps p.tables e below (s₁.setTop (mkF m 40 #[.val (.long (-7723592293110705685 : Int64)), .second, .val (.long (-8904469923522310461 : Int64)), .second] [(.long (2485260188148301825 : Int64)), (.long (-8904469923522310461 : Int64))])) _
    refine XS.lmul X0.here hx rfl (hb hby own_d_method_2_code_40) rfl ?_
    show Steps p.tables e below (s₁.setTop (mkF m 41 #[.val (.long (-7723592293110705685 : Int64)), .second, .val (.long (-8904469923522310461 : Int64)), .second] [(.long ((-8904469923522310461 : Int64) * (2485260188148301825 : Int64)))])) _
    rw [fold12]
    show Steps p.tables e below (s₁.setTop (mkF m 41 #[.val (.long (-7723592293110705685 : Int64)), .second, .val (.long (-8904469923522310461 : Int64)), .second] [(.long (4274833807104642755 : Int64))])) _
    refine XS.lstoreN X0.here hx rfl (hb hby own_d_method_2_code_41) rfl (l' := #[.val (.long (-7723592293110705685 : Int64)), .second, .val (.long (4274833807104642755 : Int64)), .second]) rfl ?_
    show Steps p.tables e below (s₁.setTop (mkF m 42 #[.val (.long (-7723592293110705685 : Int64)), .second, .val (.long (4274833807104642755 : Int64)), .second] [])) _
    refine XS.lloadN X0.here hx rfl (hb hby own_d_method_2_code_42) rfl ?_
    show Steps p.tables e below (s₁.setTop (mkF m 43 #[.val (.long (-7723592293110705685 : Int64)), .second, .val (.long (4274833807104642755 : Int64)), .second] [(.long (4274833807104642755 : Int64))])) _
    refine X0.ldc2Long hx hown (mvT hZ (hw _ (List.mem_of_getElem? (i := 17) rfl))) (g := (mkF m 43 #[.val (.long (-7723592293110705685 : Int64)), .second, .val (.long (4274833807104642755 : Int64)), .second] [(.long (4274833807104642755 : Int64))])) rfl (hb hby own_d_method_2_code_43) _ ?_
    show Steps p.tables e below (s₁.setTop (mkF m 46 #[.val (.long (-7723592293110705685 : Int64)), .second, .val (.long (4274833807104642755 : Int64)), .second] [(.long (2 : Int64)), (.long (4274833807104642755 : Int64))])) _
    refine XS.lloadN X0.here hx rfl (hb hby own_d_method_2_code_46) rfl ?_
    show Steps p.tables e below (s₁.setTop (mkF m 47 #[.val (.long (-7723592293110705685 : Int64)), .second, .val (.long (4274833807104642755 : Int64)), .second] [(.long (-7723592293110705685 : Int64)), (.long (2 : Int64)), (.long (4274833807104642755 : Int64))])) _
    refine XS.lloadN X0.here hx rfl (hb hby own_d_method_2_code_47) rfl ?_
    show Steps p.tables e below (s₁.setTop (mkF m 48 #[.val (.long (-7723592293110705685 : Int64)), .second, .val (.long (4274833807104642755 : Int64)), .second] [(.long (4274833807104642755 : Int64)), (.long (-7723592293110705685 : Int64)), (.long (2 : Int64)), (.long (4274833807104642755 : Int64))])) _
    refine XS.lmul X0.here hx rfl (hb hby own_d_method_2_code_48) rfl ?_
    show Steps p.tables e below (s₁.setTop (mkF m 49 #[.val (.long (-7723592293110705685 : Int64)), .second, .val (.long (4274833807104642755 : Int64)), .second] [(.long ((-7723592293110705685 : Int64) * (4274833807104642755 : Int64))), (.long (2 : Int64)), (.long (4274833807104642755 : Int64))])) _
    rw [fold13]
    show Steps p.tables e below (s₁.setTop (mkF m 49 #[.val (.long (-7723592293110705685 : Int64)), .second, .val (.long (4274833807104642755 : Int64)), .second] [(.long (9042946576783245313 : Int64)), (.long (2 : Int64)), (.long (4274833807104642755 : Int64))])) _
    refine XS.lsub X0.here hx rfl (hb hby own_d_method_2_code_49) rfl ?_
    show Steps p.tables e below (s₁.setTop (mkF m 50 #[.val (.long (-7723592293110705685 : Int64)), .second, .val (.long (4274833807104642755 : Int64)), .second] [(.long ((2 : Int64) - (9042946576783245313 : Int64))), (.long (4274833807104642755 : Int64))])) _
    rw [fold14]
    show Steps p.tables e below (s₁.setTop (mkF m 50 #[.val (.long (-7723592293110705685 : Int64)), .second, .val (.long (4274833807104642755 : Int64)), .second] [(.long (-9042946576783245311 : Int64)), (.long (4274833807104642755 : Int64))])) _
    refine XS.lmul X0.here hx rfl (hb hby own_d_method_2_code_50) rfl ?_
    show Steps p.tables e below (s₁.setTop (mkF m 51 #[.val (.long (-7723592293110705685 : Int64)), .second, .val (.long (4274833807104642755 : Int64)), .second] [(.long ((4274833807104642755 : Int64) * (-9042946576783245311 : Int64)))])) _
    rw [fold15]
    show Steps p.tables e below (s₁.setTop (mkF m 51 #[.val (.long (-7723592293110705685 : Int64)), .second, .val (.long (4274833807104642755 : Int64)), .second] [(.long (3573116690164977347 : Int64))])) _
    refine XS.lstoreN X0.here hx rfl (hb hby own_d_method_2_code_51) rfl (l' := #[.val (.long (-7723592293110705685 : Int64)), .second, .val (.long (3573116690164977347 : Int64)), .second]) rfl ?_
    show Steps p.tables e below (s₁.setTop (mkF m 52 #[.val (.long (-7723592293110705685 : Int64)), .second, .val (.long (3573116690164977347 : Int64)), .second] [])) _
    refine XS.lloadN X0.here hx rfl (hb hby own_d_method_2_code_52) rfl ?_
    exact k)
  obtain ⟨fs, hr, hrun, hended, hW, hsame⟩ := X0.leave (v := some (.long (3573116690164977347 : Int64))) (fun h => by rw [Bd.returns] at h; cases h)
  refine ⟨_, _, pre16 _ ?_, hrun, hended, _, _, rfl, ?_, ⟨_, rfl⟩, hW, hsame.mono (by decide) (by decide)⟩
  · show Steps p.tables e below (s₁.setTop (mkF m 53 #[.val (.long (-7723592293110705685 : Int64)), .second, .val (.long (3573116690164977347 : Int64)), .second] [(.long (3573116690164977347 : Int64))])) _
    exact retOut X0 hx (t := .long) (i := .lreturn) Bd.returns rfl (Or.inr (Or.inl ⟨rfl, rfl, _, rfl⟩)) (hb hby own_d_method_2_code_53) hr
  · show QP (.long (3573116690164977347 : Int64)) h0 n0 _ s₁.heap _
    rw [e0]
    exact ⟨rfl, N0, rfl⟩
theorem own_ef_rm2 (m : MethodId) (y0 : Int64) : entryFrame m #[(.long y0)] 6 = mkF m 0 #[.val (.long y0), .second, .unset, .unset, .unset, .unset] [] := by first | (simp [entryFrame, mkF, argsToLocals, Value.category]; done) | rfl
set_option maxRecDepth 65536 in
set_option maxHeartbeats 40000000 in
theorem rm2 (l : Launch) (Z : State) (a0 : Array Value) (hw : ∀ d ∈ tables_1, d.before a0 Z = true) (ws : List Jvm.Cond) (p1 : Int64) (h0 : Heap) (n0 : Nat) (Z0 : n0 ≤ h0.size)  :
    MetFree l (⟨"com/example/elderflower/elderflower/HashingMixPinLaw", "unmix", "(J)J"⟩ : MethodName) (head1 (Jvm.Cond.code (⟨"com/example/elderflower/elderflower/HashingMixPinLaw", "unmix", "(J)J"⟩ : MethodName) method_4_code 6 (some .long) :: ws) ({ frames := 1, cells := 0, slots := 0, locals := 17 } : Room)) (fun a U => a = #[(.long p1)] ∧ Z.Warmed39 U.vm ∧ U.heap = h0) (fun _ _ _ _ _ => True) (fun _ U o U' => ∃ v L, o = .returned v ∧ QP (.long (own_unmix p1)) h0 n0 v U'.heap L ∧ FrameEnd U o U' L ({ frames := 1, cells := 0, slots := 0, locals := 17 } : Room).cells ({ frames := 1, cells := 0, slots := 0, locals := 17 } : Room).slots) := by
  refine MetFree.of_bodySF (plainFor_of_name own_pn1) hisR ?_
  intro p e s m args below meth c s₁ Bd hml0 hP hK
  obtain ⟨rfl, hZ, hh⟩ := hP
  have hx := Bd.exec
  have hby := Bd.bytes
  have hml : c.maxLocals = 6 := hml0
  have hown : s.vm.findClass "com/example/elderflower/elderflower/HashingMixPinLaw" = some m.cls := findClass_of_methodNamed Bd.named
  have hnm := (name_of_methodNamed Bd.named Bd.method).1
  have X0 : Stand p l e ({ frames := 1, cells := 0, slots := 0, locals := 17 } : Room) s m #[(.long p1)] below meth c s₁ [] 0 0 := Stand.of_body Bd
  have e0 : s₁.heap = h0 := by rw [← hh, Bd.state]; rfl
  have N0 := Fr.nil n0
  have pre0 : ∀ t, Steps p.tables e below (s₁.setTop (mkF m 0 #[.val (.long p1), .second, .unset, .unset, .unset, .unset] [])) t → Steps p.tables e below (s₁.setTop (entryFrame m #[(.long p1)] 6)) t := fun t k => castTop (own_ef_rm2 m p1) k
  obtain ⟨_, _, ⟨T1, L1, k1, n1⟩, -, X1, ⟨Lc1, hQ1, l1, y1, z1⟩, st1⟩ := Jvm.LawKit.callS X0 hx (y := (⟨"com/example/elderflower/elderflower/HashingMixPinLaw", "unXorShift", "(JI)J"⟩ : MethodName)) hown (mvT hZ (hw _ (List.mem_of_getElem? (i := 10) rfl))) (mvT hZ (hw _ (List.mem_of_getElem? (i := 11) rfl))) (mvT hZ (hw _ (List.mem_of_getElem? (i := 8) rfl))) (mvT hZ (hw _ (List.mem_of_getElem? (i := 12) rfl))) (by decide) (backOf (W := 0) (rm3 l Z a0 hw [] p1 (31 : Int32)  h0 n0 Z0 ) hZ (hw _ (List.mem_of_getElem? (i := 12) rfl)) (hw _ (List.mem_of_getElem? (i := 8) rfl)) (by decide) (by decide)) (g := (mkF m 3 #[.val (.long p1), .second, .unset, .unset, .unset, .unset] [(.int (31 : Int32)), (.long p1)])) rfl (by rw [hml]; rfl) (argsL := [(.long p1), (.int (31 : Int32))]) (rest := []) (lenOf own_pd0 rfl) rfl (by show 2 * 0 + _ ≤ _; exact Nat.le_of_eq rfl) (hb hby own_d_method_4_code_3) (fun _ _ => ⟨rfl, e0, (by decide : 0 + 0 ≤ _), (by decide : 0 + 0 ≤ _)⟩)
  dsimp only [Pt.U, Pt.locs, Pt.cells, Pt.slots] at X1 l1 y1 z1 st1 hQ1
  subst l1 y1 z1
  obtain ⟨rfl, N1q, e1⟩ := hQ1
  have N1 := Fr.app N0 N1q
  obtain ⟨_, _, ⟨T2, L2, k2, n2⟩, -, X2, ⟨Lc2, hQ2, l2, y2, z2⟩, st2⟩ := Jvm.LawKit.callS X1 hx (y := (⟨"com/example/elderflower/elderflower/HashingMixPinLaw", "inverse", "(J)J"⟩ : MethodName)) hown (mvT hZ (hw _ (List.mem_of_getElem? (i := 14) rfl))) (mvT hZ (hw _ (List.mem_of_getElem? (i := 15) rfl))) (mvT hZ (hw _ (List.mem_of_getElem? (i := 8) rfl))) (mvT hZ (hw _ (List.mem_of_getElem? (i := 16) rfl))) (by decide) (backOf (W := 2) (rm4b l Z a0 hw []   h0 n0 Z0 ) hZ (hw _ (List.mem_of_getElem? (i := 16) rfl)) (hw _ (List.mem_of_getElem? (i := 8) rfl)) (by decide) (by decide)) (g := (mkF m 11 #[.val (.long p1), .second, .val (.long (own_unx p1 (31 : Int32))), .second, .unset, .unset] [(.long (-7723592293110705685 : Int64)), (.long (own_unx p1 (31 : Int32)))])) rfl (by rw [hml]; rfl) (argsL := [(.long (-7723592293110705685 : Int64))]) (rest := [(.long (own_unx p1 (31 : Int32)))]) (lenOf own_pd1 rfl) rfl (by show 2 * 0 + _ ≤ _; exact Nat.le_of_eq rfl) (hb hby own_d_method_4_code_11) (fun _ _ => ⟨rfl, e1, (by decide : 0 + 0 ≤ _), (by decide : 0 + 0 ≤ _)⟩)
  dsimp only [Pt.U, Pt.locs, Pt.cells, Pt.slots] at X2 l2 y2 z2 st2 hQ2
  subst l2 y2 z2
  obtain ⟨rfl, N2q, e2⟩ := hQ2
  have N2 := Fr.app N1 N2q
  obtain ⟨_, _, ⟨T3, L3, k3, n3⟩, -, X3, ⟨Lc3, hQ3, l3, y3, z3⟩, st3⟩ := Jvm.LawKit.callS X2 hx (y := (⟨"com/example/elderflower/elderflower/HashingMixPinLaw", "unXorShift", "(JI)J"⟩ : MethodName)) hown (mvT hZ (hw _ (List.mem_of_getElem? (i := 10) rfl))) (mvT hZ (hw _ (List.mem_of_getElem? (i := 11) rfl))) (mvT hZ (hw _ (List.mem_of_getElem? (i := 8) rfl))) (mvT hZ (hw _ (List.mem_of_getElem? (i := 12) rfl))) (by decide) (backOf (W := 0) (rm3 l Z a0 hw [] ((own_unx p1 (31 : Int32)) * (3573116690164977347 : Int64)) (27 : Int32)  h0 n0 Z0 ) hZ (hw _ (List.mem_of_getElem? (i := 12) rfl)) (hw _ (List.mem_of_getElem? (i := 8) rfl)) (by decide) (by decide)) (g := (mkF m 17 #[.val (.long p1), .second, .val (.long (own_unx p1 (31 : Int32))), .second, .unset, .unset] [(.int (27 : Int32)), (.long ((own_unx p1 (31 : Int32)) * (3573116690164977347 : Int64)))])) rfl (by rw [hml]; rfl) (argsL := [(.long ((own_unx p1 (31 : Int32)) * (3573116690164977347 : Int64))), (.int (27 : Int32))]) (rest := []) (lenOf own_pd0 rfl) rfl (by show 2 * 0 + _ ≤ _; exact Nat.le_of_eq rfl) (hb hby own_d_method_4_code_17) (fun _ _ => ⟨rfl, e2, (by decide : 0 + 0 ≤ _), (by decide : 0 + 0 ≤ _)⟩)
  dsimp only [Pt.U, Pt.locs, Pt.cells, Pt.slots] at X3 l3 y3 z3 st3 hQ3
  subst l3 y3 z3
  obtain ⟨rfl, N3q, e3⟩ := hQ3
  have N3 := Fr.app N2 N3q
  obtain ⟨_, _, ⟨T4, L4, k4, n4⟩, -, X4, ⟨Lc4, hQ4, l4, y4, z4⟩, st4⟩ := Jvm.LawKit.callS X3 hx (y := (⟨"com/example/elderflower/elderflower/HashingMixPinLaw", "inverse", "(J)J"⟩ : MethodName)) hown (mvT hZ (hw _ (List.mem_of_getElem? (i := 14) rfl))) (mvT hZ (hw _ (List.mem_of_getElem? (i := 15) rfl))) (mvT hZ (hw _ (List.mem_of_getElem? (i := 8) rfl))) (mvT hZ (hw _ (List.mem_of_getElem? (i := 16) rfl))) (by decide) (backOf (W := 2) (rm4a l Z a0 hw []   h0 n0 Z0 ) hZ (hw _ (List.mem_of_getElem? (i := 16) rfl)) (hw _ (List.mem_of_getElem? (i := 8) rfl)) (by decide) (by decide)) (g := (mkF m 27 #[.val (.long p1), .second, .val (.long (own_unx p1 (31 : Int32))), .second, .val (.long (own_unx ((own_unx p1 (31 : Int32)) * (3573116690164977347 : Int64)) (27 : Int32))), .second] [(.long (-4658895280553007687 : Int64)), (.long (own_unx ((own_unx p1 (31 : Int32)) * (3573116690164977347 : Int64)) (27 : Int32)))])) rfl (by rw [hml]; rfl) (argsL := [(.long (-4658895280553007687 : Int64))]) (rest := [(.long (own_unx ((own_unx p1 (31 : Int32)) * (3573116690164977347 : Int64)) (27 : Int32)))]) (lenOf own_pd1 rfl) rfl (by show 2 * 0 + _ ≤ _; exact Nat.le_of_eq rfl) (hb hby own_d_method_4_code_27) (fun _ _ => ⟨rfl, e3, (by decide : 0 + 0 ≤ _), (by decide : 0 + 0 ≤ _)⟩)
  dsimp only [Pt.U, Pt.locs, Pt.cells, Pt.slots] at X4 l4 y4 z4 st4 hQ4
  subst l4 y4 z4
  obtain ⟨rfl, N4q, e4⟩ := hQ4
  have N4 := Fr.app N3 N4q
  obtain ⟨_, _, ⟨T5, L5, k5, n5⟩, -, X5, ⟨Lc5, hQ5, l5, y5, z5⟩, st5⟩ := Jvm.LawKit.callS X4 hx (y := (⟨"com/example/elderflower/elderflower/HashingMixPinLaw", "unXorShift", "(JI)J"⟩ : MethodName)) hown (mvT hZ (hw _ (List.mem_of_getElem? (i := 10) rfl))) (mvT hZ (hw _ (List.mem_of_getElem? (i := 11) rfl))) (mvT hZ (hw _ (List.mem_of_getElem? (i := 8) rfl))) (mvT hZ (hw _ (List.mem_of_getElem? (i := 12) rfl))) (by decide) (backOf (W := 0) (rm3 l Z a0 hw [] ((own_unx ((own_unx p1 (31 : Int32)) * (3573116690164977347 : Int64)) (27 : Int32)) * (-7575587736534282103 : Int64)) (30 : Int32)  h0 n0 Z0 ) hZ (hw _ (List.mem_of_getElem? (i := 12) rfl)) (hw _ (List.mem_of_getElem? (i := 8) rfl)) (by decide) (by decide)) (g := (mkF m 33 #[.val (.long p1), .second, .val (.long (own_unx p1 (31 : Int32))), .second, .val (.long (own_unx ((own_unx p1 (31 : Int32)) * (3573116690164977347 : Int64)) (27 : Int32))), .second] [(.int (30 : Int32)), (.long ((own_unx ((own_unx p1 (31 : Int32)) * (3573116690164977347 : Int64)) (27 : Int32)) * (-7575587736534282103 : Int64)))])) rfl (by rw [hml]; rfl) (argsL := [(.long ((own_unx ((own_unx p1 (31 : Int32)) * (3573116690164977347 : Int64)) (27 : Int32)) * (-7575587736534282103 : Int64))), (.int (30 : Int32))]) (rest := []) (lenOf own_pd0 rfl) rfl (by show 2 * 0 + _ ≤ _; exact Nat.le_of_eq rfl) (hb hby own_d_method_4_code_33) (fun _ _ => ⟨rfl, e4, (by decide : 0 + 0 ≤ _), (by decide : 0 + 0 ≤ _)⟩)
  dsimp only [Pt.U, Pt.locs, Pt.cells, Pt.slots] at X5 l5 y5 z5 st5 hQ5
  subst l5 y5 z5
  obtain ⟨rfl, N5q, e5⟩ := hQ5
  have N5 := Fr.app N4 N5q
  have pre6 : ∀ t, Steps p.tables e below (T5.setTop (mkF m 36 #[.val (.long p1), .second, .val (.long (own_unx p1 (31 : Int32))), .second, .val (.long (own_unx ((own_unx p1 (31 : Int32)) * (3573116690164977347 : Int64)) (27 : Int32))), .second] [(.long (own_unx ((own_unx ((own_unx p1 (31 : Int32)) * (3573116690164977347 : Int64)) (27 : Int32)) * (-7575587736534282103 : Int64)) (30 : Int32)))])) t → Steps p.tables e below (s₁.setTop (entryFrame m #[(.long p1)] 6)) t := fun t k => pre0 t (by
    show Steps p.tables e below (s₁.setTop (mkF m 0 #[.val (.long p1), .second, .unset, .unset, .unset, .unset] [])) _
    refine XS.lloadN X0.here hx rfl (hb hby own_d_method_4_code_0) rfl ?_
    show Steps p.tables e below (s₁.setTop (mkF m 1 #[.val (.long p1), .second, .unset, .unset, .unset, .unset] [(.long p1)])) _
    refine XS.bipush X0.here hx rfl (hb hby own_d_method_4_code_1) ?_
    show Steps p.tables e below (s₁.setTop (mkF m 3 #[.val (.long p1), .second, .unset, .unset, .unset, .unset] [(.int (31 : Int32)), (.long p1)])) _
    refine st1 _ ?_
    show Steps p.tables e below (T1.setTop (mkF m 6 #[.val (.long p1), .second, .unset, .unset, .unset, .unset] [(.long (own_unx p1 (31 : Int32)))])) _
    refine XS.lstoreN X1.here hx rfl (hb hby own_d_method_4_code_6) rfl (l' := #[.val (.long p1), .second, .val (.long (own_unx p1 (31 : Int32))), .second, .unset, .unset]) rfl ?_
    show Steps p.tables e below (T1.setTop (mkF m 7 #[.val (.long p1), .second, .val (.long (own_unx p1 (31 : Int32))), .second, .unset, .unset] [])) _
    refine XS.lloadN X1.here hx rfl (hb hby own_d_method_4_code_7) rfl ?_
    show Steps p.tables e below (T1.setTop (mkF m 8 #[.val (.long p1), .second, .val (.long (own_unx p1 (31 : Int32))), .second, .unset, .unset] [(.long (own_unx p1 (31 : Int32)))])) _
    refine X1.ldc2Long hx hown (mvT hZ (hw _ (List.mem_of_getElem? (i := 13) rfl))) (g := (mkF m 8 #[.val (.long p1), .second, .val (.long (own_unx p1 (31 : Int32))), .second, .unset, .unset] [(.long (own_unx p1 (31 : Int32)))])) rfl (hb hby own_d_method_4_code_8) _ ?_
    show Steps p.tables e below (T1.setTop (mkF m 11 #[.val (.long p1), .second, .val (.long (own_unx p1 (31 : Int32))), .second, .unset, .unset] [(.long (-7723592293110705685 : Int64)), (.long (own_unx p1 (31 : Int32)))])) _
    refine st2 _ ?_
    show Steps p.tables e below (T2.setTop (mkF m 14 #[.val (.long p1), .second, .val (.long (own_unx p1 (31 : Int32))), .second, .unset, .unset] [(.long (3573116690164977347 : Int64)), (.long (own_unx p1 (31 : Int32)))])) _
    refine XS.lmul X2.here hx rfl (hb hby own_d_method_4_code_14) rfl ?_
    show Steps p.tables e below (T2.setTop (mkF m 15 #[.val (.long p1), .second, .val (.long (own_unx p1 (31 : Int32))), .second, .unset, .unset] [(.long ((own_unx p1 (31 : Int32)) * (3573116690164977347 : Int64)))])) _
    refine XS.bipush X2.here hx rfl (hb hby own_d_method_4_code_15) ?_
    show Steps p.tables e below (T2.setTop (mkF m 17 #[.val (.long p1), .second, .val (.long (own_unx p1 (31 : Int32))), .second, .unset, .unset] [(.int (27 : Int32)), (.long ((own_unx p1 (31 : Int32)) * (3573116690164977347 : Int64)))])) _
    refine st3 _ ?_
    show Steps p.tables e below (T3.setTop (mkF m 20 #[.val (.long p1), .second, .val (.long (own_unx p1 (31 : Int32))), .second, .unset, .unset] [(.long (own_unx ((own_unx p1 (31 : Int32)) * (3573116690164977347 : Int64)) (27 : Int32)))])) _
    refine XS.lstore X3.here hx rfl (hb hby own_d_method_4_code_20) rfl (l' := #[.val (.long p1), .second, .val (.long (own_unx p1 (31 : Int32))), .second, .val (.long (own_unx ((own_unx p1 (31 : Int32)) * (3573116690164977347 : Int64)) (27 : Int32))), .second]) rfl ?_
    show Steps p.tables e below (T3.setTop (mkF m 22 #[.val (.long p1), .second, .val (.long (own_unx p1 (31 : Int32))), .second, .val (.long (own_unx ((own_unx p1 (31 : Int32)) * (3573116690164977347 : Int64)) (27 : Int32))), .second] [])) _
    refine XS.lload X3.here hx rfl (hb hby own_d_method_4_code_22) rfl ?_
    show Steps p.tables e below (T3.setTop (mkF m 24 #[.val (.long p1), .second, .val (.long (own_unx p1 (31 : Int32))), .second, .val (.long (own_unx ((own_unx p1 (31 : Int32)) * (3573116690164977347 : Int64)) (27 : Int32))), .second] [(.long (own_unx ((own_unx p1 (31 : Int32)) * (3573116690164977347 : Int64)) (27 : Int32)))])) _
    refine X3.ldc2Long hx hown (mvT hZ (hw _ (List.mem_of_getElem? (i := 18) rfl))) (g := (mkF m 24 #[.val (.long p1), .second, .val (.long (own_unx p1 (31 : Int32))), .second, .val (.long (own_unx ((own_unx p1 (31 : Int32)) * (3573116690164977347 : Int64)) (27 : Int32))), .second] [(.long (own_unx ((own_unx p1 (31 : Int32)) * (3573116690164977347 : Int64)) (27 : Int32)))])) rfl (hb hby own_d_method_4_code_24) _ ?_
    show Steps p.tables e below (T3.setTop (mkF m 27 #[.val (.long p1), .second, .val (.long (own_unx p1 (31 : Int32))), .second, .val (.long (own_unx ((own_unx p1 (31 : Int32)) * (3573116690164977347 : Int64)) (27 : Int32))), .second] [(.long (-4658895280553007687 : Int64)), (.long (own_unx ((own_unx p1 (31 : Int32)) * (3573116690164977347 : Int64)) (27 : Int32)))])) _
    refine st4 _ ?_
    show Steps p.tables e below (T4.setTop (mkF m 30 #[.val (.long p1), .second, .val (.long (own_unx p1 (31 : Int32))), .second, .val (.long (own_unx ((own_unx p1 (31 : Int32)) * (3573116690164977347 : Int64)) (27 : Int32))), .second] [(.long (-7575587736534282103 : Int64)), (.long (own_unx ((own_unx p1 (31 : Int32)) * (3573116690164977347 : Int64)) (27 : Int32)))])) _
    refine XS.lmul X4.here hx rfl (hb hby own_d_method_4_code_30) rfl ?_
    show Steps p.tables e below (T4.setTop (mkF m 31 #[.val (.long p1), .second, .val (.long (own_unx p1 (31 : Int32))), .second, .val (.long (own_unx ((own_unx p1 (31 : Int32)) * (3573116690164977347 : Int64)) (27 : Int32))), .second] [(.long ((own_unx ((own_unx p1 (31 : Int32)) * (3573116690164977347 : Int64)) (27 : Int32)) * (-7575587736534282103 : Int64)))])) _
    refine XS.bipush X4.here hx rfl (hb hby own_d_method_4_code_31) ?_
    show Steps p.tables e below (T4.setTop (mkF m 33 #[.val (.long p1), .second, .val (.long (own_unx p1 (31 : Int32))), .second, .val (.long (own_unx ((own_unx p1 (31 : Int32)) * (3573116690164977347 : Int64)) (27 : Int32))), .second] [(.int (30 : Int32)), (.long ((own_unx ((own_unx p1 (31 : Int32)) * (3573116690164977347 : Int64)) (27 : Int32)) * (-7575587736534282103 : Int64)))])) _
    refine st5 _ ?_
    exact k)
  obtain ⟨fs, hr, hrun, hended, hW, hsame⟩ := X5.leave (v := some (.long (own_unx ((own_unx ((own_unx p1 (31 : Int32)) * (3573116690164977347 : Int64)) (27 : Int32)) * (-7575587736534282103 : Int64)) (30 : Int32)))) (fun h => by rw [Bd.returns] at h; cases h)
  refine ⟨_, _, pre6 _ ?_, hrun, hended, _, _, rfl, ?_, ⟨_, rfl⟩, hW, hsame.mono (by decide) (by decide)⟩
  · show Steps p.tables e below (T5.setTop (mkF m 36 #[.val (.long p1), .second, .val (.long (own_unx p1 (31 : Int32))), .second, .val (.long (own_unx ((own_unx p1 (31 : Int32)) * (3573116690164977347 : Int64)) (27 : Int32))), .second] [(.long (own_unx ((own_unx ((own_unx p1 (31 : Int32)) * (3573116690164977347 : Int64)) (27 : Int32)) * (-7575587736534282103 : Int64)) (30 : Int32)))])) _
    exact retOut X5 hx (t := .long) (i := .lreturn) Bd.returns rfl (Or.inr (Or.inl ⟨rfl, rfl, _, rfl⟩)) (hb hby own_d_method_4_code_36) hr
  · show QP (.long (own_unmix p1)) h0 n0 _ T5.heap _
    rw [e5]
    exact ⟨rfl, N5, rfl⟩
theorem own_ef_rm0 (m : MethodId) (y0 : Int64) : entryFrame m #[(.long y0)] maxLocals = mkF m 0 #[.val (.long y0), .second, .unset, .unset] [] := by first | (simp [entryFrame, mkF, argsToLocals, Value.category, maxLocals]; done) | rfl
set_option maxRecDepth 65536 in
set_option maxHeartbeats 40000000 in
theorem rm0 (l : Launch) (Z : State) (a0 : Array Value) (hw : ∀ d ∈ tables_1, d.before a0 Z = true) (ws : List Jvm.Cond) (p1 : Int64) (h0 : Heap) (n0 : Nat) (Z0 : n0 ≤ h0.size)  :
    MetFree l x (head1 (Jvm.Cond.code x code maxLocals ret :: ws) room_1) (fun a U => a = #[(.long p1)] ∧ Z.Warmed39 U.vm ∧ U.heap = h0) (fun _ _ _ _ _ => True) (fun _ U o U' => ∃ v L, o = .returned v ∧ QL n0 v U'.heap L ∧ FrameEnd U o U' L 0 0) := by
  refine MetFree.of_bodySF (plainFor_of_name own_pn1) hisR ?_
  intro p e s m args below meth c s₁ Bd hml0 hP hK
  obtain ⟨rfl, hZ, hh⟩ := hP
  have hx := Bd.exec
  have hby := Bd.bytes
  have hml : c.maxLocals = 4 := hml0
  have hown : s.vm.findClass "com/example/elderflower/elderflower/HashingMixPinLaw" = some m.cls := findClass_of_methodNamed Bd.named
  have hnm := (name_of_methodNamed Bd.named Bd.method).1
  have X0 : Stand p l e room_1 s m #[(.long p1)] below meth c s₁ [] 0 0 := Stand.of_body Bd
  have e0 : s₁.heap = h0 := by rw [← hh, Bd.state]; rfl
  have N0 := Fr.nil n0
  have pre0 : ∀ t, Steps p.tables e below (s₁.setTop (mkF m 0 #[.val (.long p1), .second, .unset, .unset] [])) t → Steps p.tables e below (s₁.setTop (entryFrame m #[(.long p1)] maxLocals)) t := fun t k => castTop (own_ef_rm0 m p1) k
  obtain ⟨_, _, ⟨T1, L1, k1, n1⟩, -, X1, ⟨Lc1, hQ1, l1, y1, z1⟩, st1⟩ := Jvm.LawKit.callS X0 hx (y := (⟨"com/example/elderflower/elderflower/Hashing", "mix", "(J)J"⟩ : MethodName)) hown (mvT hZ (hw _ (List.mem_of_getElem? (i := 0) rfl))) (mvT hZ (hw _ (List.mem_of_getElem? (i := 1) rfl))) (mvT hZ (hw _ (List.mem_of_getElem? (i := 2) rfl))) (mvT hZ (hw _ (List.mem_of_getElem? (i := 3) rfl))) (by decide) (backOf (W := 0) (rm1 l Z a0 hw [] p1  h0 n0 Z0 ) hZ (hw _ (List.mem_of_getElem? (i := 3) rfl)) (hw _ (List.mem_of_getElem? (i := 2) rfl)) (by decide) (by decide)) (g := (mkF m 1 #[.val (.long p1), .second, .unset, .unset] [(.long p1)])) rfl (by rw [hml]; rfl) (argsL := [(.long p1)]) (rest := []) (lenOf own_pd1 rfl) rfl (by show 2 * 0 + _ ≤ _; exact Nat.le_of_eq rfl) (hb hby at_1) (fun _ _ => ⟨rfl, e0, (by decide : 0 + 0 ≤ _), (by decide : 0 + 0 ≤ _)⟩)
  dsimp only [Pt.U, Pt.locs, Pt.cells, Pt.slots] at X1 l1 y1 z1 st1 hQ1
  subst l1 y1 z1
  obtain ⟨rfl, N1q, e1⟩ := hQ1
  have N1 := Fr.app N0 N1q
  obtain ⟨_, _, ⟨T2, L2, k2, n2⟩, -, X2, ⟨Lc2, hQ2, l2, y2, z2⟩, st2⟩ := Jvm.LawKit.callS X1 hx (y := (⟨"com/example/elderflower/elderflower/HashingMixPinLaw", "unmix", "(J)J"⟩ : MethodName)) hown (mvT hZ (hw _ (List.mem_of_getElem? (i := 6) rfl))) (mvT hZ (hw _ (List.mem_of_getElem? (i := 7) rfl))) (mvT hZ (hw _ (List.mem_of_getElem? (i := 8) rfl))) (mvT hZ (hw _ (List.mem_of_getElem? (i := 9) rfl))) (by decide) (backOf (W := 0) (rm2 l Z a0 hw [] (own_mix p1)  h0 n0 Z0 ) hZ (hw _ (List.mem_of_getElem? (i := 9) rfl)) (hw _ (List.mem_of_getElem? (i := 8) rfl)) (by decide) (by decide)) (g := (mkF m 6 #[.val (.long p1), .second, .val (.long (own_mix p1)), .second] [(.long (own_mix p1))])) rfl (by rw [hml]; rfl) (argsL := [(.long (own_mix p1))]) (rest := []) (lenOf own_pd1 rfl) rfl (by show 2 * 0 + _ ≤ _; exact Nat.le_of_eq rfl) (hb hby at_6) (fun _ _ => ⟨rfl, e1, (by decide : 0 + 0 ≤ _), (by decide : 0 + 0 ≤ _)⟩)
  dsimp only [Pt.U, Pt.locs, Pt.cells, Pt.slots] at X2 l2 y2 z2 st2 hQ2
  subst l2 y2 z2
  obtain ⟨rfl, N2q, e2⟩ := hQ2
  have N2 := Fr.app N1 N2q
  have pre3 : ∀ t, Steps p.tables e below (T2.setTop (mkF m 19 #[.val (.long p1), .second, .val (.long (own_mix p1)), .second] [(.int (1 : Int32))])) t → Steps p.tables e below (s₁.setTop (entryFrame m #[(.long p1)] maxLocals)) t := fun t k => pre0 t (by
    show Steps p.tables e below (s₁.setTop (mkF m 0 #[.val (.long p1), .second, .unset, .unset] [])) _
    refine XS.lloadN X0.here hx rfl (hb hby at_0) rfl ?_
    show Steps p.tables e below (s₁.setTop (mkF m 1 #[.val (.long p1), .second, .unset, .unset] [(.long p1)])) _
    refine st1 _ ?_
    show Steps p.tables e below (T1.setTop (mkF m 4 #[.val (.long p1), .second, .unset, .unset] [(.long (own_mix p1))])) _
    refine XS.lstoreN X1.here hx rfl (hb hby at_4) rfl (l' := #[.val (.long p1), .second, .val (.long (own_mix p1)), .second]) rfl ?_
    show Steps p.tables e below (T1.setTop (mkF m 5 #[.val (.long p1), .second, .val (.long (own_mix p1)), .second] [])) _
    refine XS.lloadN X1.here hx rfl (hb hby at_5) rfl ?_
    show Steps p.tables e below (T1.setTop (mkF m 6 #[.val (.long p1), .second, .val (.long (own_mix p1)), .second] [(.long (own_mix p1))])) _
    refine st2 _ ?_
    show Steps p.tables e below (T2.setTop (mkF m 9 #[.val (.long p1), .second, .val (.long (own_mix p1)), .second] [(.long (own_unmix (own_mix p1)))])) _
    refine XS.lloadN X2.here hx rfl (hb hby at_9) rfl ?_
    show Steps p.tables e below (T2.setTop (mkF m 10 #[.val (.long p1), .second, .val (.long (own_mix p1)), .second] [(.long p1), (.long (own_unmix (own_mix p1)))])) _
    refine XS.lcmp X2.here hx rfl (hb hby at_10) rfl ?_
    show Steps p.tables e below (T2.setTop (mkF m 11 #[.val (.long p1), .second, .val (.long (own_mix p1)), .second] [(.int (lcmpW (own_unmix (own_mix p1)) p1))])) _
    refine XS.ifNo X2.here hx rfl (hb hby at_11) rfl ((if0 _ _).trans (teq ((own_lc0 (own_law p1)) : (lcmpW (own_unmix (own_mix p1)) p1) = (0 : Int32))).2) ?_
    show Steps p.tables e below (T2.setTop (mkF m 14 #[.val (.long p1), .second, .val (.long (own_mix p1)), .second] [])) _
    refine XS.iconst X2.here hx rfl (hb hby at_14) ?_
    show Steps p.tables e below (T2.setTop (mkF m 15 #[.val (.long p1), .second, .val (.long (own_mix p1)), .second] [(.int (1 : Int32))])) _
    refine XS.goto X2.here hx rfl (pc0 := 15) (pc' := 19) rfl (hb hby at_15) (by decide) (by decide) ?_
    exact k)
  obtain ⟨fs, hr, hrun, hended, hW, hsame⟩ := X2.leave (v := some (.int (nar .boolean (1 : Int32)))) (fun h => by rw [Bd.returns] at h; cases h)
  refine ⟨_, _, pre3 _ ?_, hrun, hended, _, _, rfl, ?_, ⟨_, rfl⟩, hW, hsame.mono (by decide) (by decide)⟩
  · show Steps p.tables e below (T2.setTop (mkF m 19 #[.val (.long p1), .second, .val (.long (own_mix p1)), .second] [(.int (1 : Int32))])) _
    exact retN X2 hx (t := .boolean) Bd.returns (by simp) (hb hby at_19) hr
  · show QL n0 _ T2.heap _
    rw [e2]
    exact ⟨rfl, N2⟩
set_option maxRecDepth 65536 in
set_option maxHeartbeats 40000000 in
theorem comes_1 {Post : Tables → Env → Array Value → State → Outcome → State → Prop} (hpost : ∀ tb e args s v u, (limb_1_1.after args s (.returned v) u = true ∧ limb_1_2.after args s (.returned v) u = true ∧ True) → FrameEnd s (.returned v) u (Jvm.fieldLocs frame_1_writes args s ++ Jvm.arrayLocs frame_1_arrays args s ++ Jvm.staticLocs frame_1_statics s) 0 0 → Post tb e args s (.returned v) u) :
    ArmFor flags0 classFile x code maxLocals ret World_1 tables_1 room_1 Calls_1 rest_1 Pre_1 Post := by
  intro l hfl _ _ p e ha hc hk s m args below hf hA hF happ hP
  obtain ⟨hcalls, hrest, hpre⟩ := hP
  obtain ⟨-, -, -, hnamed, -, -, -, hat⟩ := (Spec.applies_iff hf).mp happ
  obtain ⟨hg, hn⟩ := and_e (Cond.before_iff.mp (show (Jvm.Cond.and given_1 narrow_1).before args s = true from hpre))
  obtain ⟨gc, gr0⟩ := and_e hg
  have ga0 := gr0
  obtain ⟨w0, rfl⟩ : ∃ w0 : Value, args = #[w0] := by
    have hs : args.size = 1 := by simpa [Cond.value, given_1] using gc
    obtain ⟨L⟩ := args
    match L, hs with
    | [w0], _ => exact ⟨w0, rfl⟩
  have hw := fun d (hd : d ∈ tables_1) => atoms_spec (ws := Jvm.Cond.code x code maxLocals ret :: tables_1) hat d (List.mem_cons_of_mem _ hd)
  have hfit : Fit s := fun {y c} hc i hi => by
    obtain ⟨ha, rfl⟩ := Array.getElem?_eq_some_iff.mp hc
    have q := List.all_eq_true.mp ((Array.all_eq_true_iff_forall_mem.mp hF) _ (Array.getElem_mem ha)) i (List.mem_range.mpr hi)
    simpa [Array.getElem?_eq_getElem hi] using q
  obtain ⟨i0, ei0⟩ := isL_v ga0
  obtain rfl : w0 = (.long i0) := Option.some.inj ei0
  obtain ⟨n, o, h1, h2, h3, _, L, rfl, ⟨rfl, N⟩, hq⟩ := rm0 l s _ hw tables_1 i0  s.heap s.heap.size (Nat.le_refl _)  p e ha hc hk s m _ below hf ((Spec.applies_iff_loose hf).mp happ).1 ⟨rfl, State.Warmed39.refl s, rfl⟩ trivial
  refine ⟨n, _, h1, h2, h3, hpost _ _ _ _ _ _ ⟨Cond.after_iff.mpr rfl, Cond.after_iff.mpr (eq_i res_at (Term.int_eval (1)) rfl), trivial⟩ ⟨hq.1, hq.2.1, (hq.2.2.sift fun y hy => Or.inr (N y hy)).mono (by decide) (by decide)⟩⟩
theorem main_1_1 : Claimed_1_1 := comes_1 fun _ _ _ _ _ _ h hF => ⟨h.1, hF⟩
theorem main_1_2 : Claimed_1_2 := comes_1 fun _ _ _ _ _ _ h hF => ⟨h.2.1, hF⟩
end Jvm.Pilot.@@N@@
namespace Jvm.Pilot.@@N@@
open Jvm Jvm.ClassFile Sem Op Lib Jvm.Free Jvm.Stand Jvm.Pilot.@@N@@.Jvm.D
/-! MADE BY PROGRAM (witnessworld.py) out of the Statement's table words and the real class files: 9 classes; the members and pool entries that the words name. The judged class is class 1, her method 4. -/
namespace start1
open Jvm.ClassFile
def u (s : String) : CpInfo := .utf8 (stringToUtf16 s)
/-- a pool by its gaps: so many unusable entries, then the entry; so many at the end -/
def gap : Nat → List CpInfo → List CpInfo
  | 0, r => r
  | n + 1, r => .unusable :: gap n r
def poolList (es : List (Nat × CpInfo)) (last : Nat) : List CpInfo := es.foldr (fun e r => gap e.1 (e.2 :: r)) (gap last [])
def pool (es : List (Nat × CpInfo)) (last : Nat) : Array CpInfo := ⟨poolList es last⟩
def fileOf (pool : Array CpInfo) (this : Nat) (attrs : Array Attribute := #[]) (ms : Array MethodInfo := #[]) (fl : Nat := 33) (sup : Nat := 0) (ifs : Array Nat := #[]) (fds : Array FieldInfo := #[]) : ClassFile where
  minorVersion := 0
  majorVersion := 65
  constantPool := pool
  accessFlags := fl
  thisClass := this
  superClass := sup
  interfaces := ifs
  fields := fds
  methods := ms
  attributes := attrs
def plain (name : String) (sup : Option ClassId) : Class where
  name := name
  kind := .ordinary
  loader := none
  accessFlags := 33
  super := sup
  interfaces := #[]
  cf := none
  fields := #[]
  methods := #[]
  instanceTypes := #[]
  staticTypes := #[]
  resolved := #[]
  callSites := []
  init := .initialized
  statics := none
  mirror := none

def pool0 : Array CpInfo := pool [(5, u "<init>"), (0, u "()V"), (1, .class_ 10), (1, u "java/lang/Object")] 113

def k0m0 : Method := { name := "<init>", desc := "()V", sig := { parameters := [], returnType := none }, accessFlags := 1, code := none }
/-- java/lang/Object -/
def k0 : Class := { plain "java/lang/Object" none with
  accessFlags := 33
  interfaces := #[]
  cf := some (fileOf pool0 8 #[] #[{ accessFlags := 1, nameIndex := 5, descriptorIndex := 6, attributes := #[] }] 33 0 #[] #[])
  fields := #[]
  methods := #[k0m0]
  instanceTypes := #[]
  staticTypes := #[]
  resolved := Array.replicate 124 none
  statics := none }

def pool1 : Array CpInfo := pool [(2, .class_ 4), (1, u "java/lang/Object"), (0, u "<init>"), (0, u "()V"), (0, .long 2), (1, .methodref 10 11), (0, .class_ 12), (0, .nameAndType 13 14), (0, u "com/example/elderflower/elderflower/HashingMixPinLaw"), (0, u "unXorShift"), (0, u "(JI)J"), (0, .long 10723151780598845931), (1, .methodref 10 18), (0, .nameAndType 19 20), (0, u "inverse"), (0, u "(J)J"), (0, .long 13787848793156543929), (1, .methodref 24 25), (0, .class_ 26), (0, .nameAndType 27 20), (0, u "com/example/elderflower/elderflower/Hashing"), (0, u "mix"), (0, .methodref 10 29), (0, .nameAndType 30 20), (0, u "unmix"), (2, u "law"), (0, u "(J)Z")] 3

def k1m0 : Method := { name := "<init>", desc := "()V", sig := { parameters := [], returnType := none }, accessFlags := 2, code := none }
def k1c1 : Code := { maxStack := 8, maxLocals := 4, code := method_2_code, exceptionTable := #[], attributes := #[] }
def k1m1 : Method := { name := "inverse", desc := "(J)J", sig := { parameters := [.long], returnType := some .long }, accessFlags := 10, code := some k1c1 }
def k1c2 : Code := { maxStack := 6, maxLocals := 3, code := method_3_code, exceptionTable := #[], attributes := #[] }
def k1m2 : Method := { name := "unXorShift", desc := "(JI)J", sig := { parameters := [.long, .int], returnType := some .long }, accessFlags := 10, code := some k1c2 }
def k1c3 : Code := { maxStack := 4, maxLocals := 6, code := method_4_code, exceptionTable := #[], attributes := #[] }
def k1m3 : Method := { name := "unmix", desc := "(J)J", sig := { parameters := [.long], returnType := some .long }, accessFlags := 10, code := some k1c3 }
def k1c4 : Code := { maxStack := 4, maxLocals := 4, code := code, exceptionTable := #[], attributes := #[] }
def k1m4 : Method := { name := "law", desc := "(J)Z", sig := { parameters := [.long], returnType := some .boolean }, accessFlags := 9, code := some k1c4 }
/-- com/example/elderflower/elderflower/HashingMixPinLaw -/
def k1 : Class := { plain "com/example/elderflower/elderflower/HashingMixPinLaw" (some 0) with
  accessFlags := 49
  interfaces := #[]
  cf := some (fileOf pool1 10 #[] #[{ accessFlags := 2, nameIndex := 5, descriptorIndex := 6, attributes := #[] }, { accessFlags := 10, nameIndex := 19, descriptorIndex := 20, attributes := #[] }, { accessFlags := 10, nameIndex := 13, descriptorIndex := 14, attributes := #[] }, { accessFlags := 10, nameIndex := 30, descriptorIndex := 20, attributes := #[] }, { accessFlags := 9, nameIndex := 33, descriptorIndex := 34, attributes := #[] }] 49 2 #[] #[])
  fields := #[]
  methods := #[k1m0, k1m1, k1m2, k1m3, k1m4]
  instanceTypes := #[]
  staticTypes := #[]
  resolved := Array.replicate 38 none
  statics := none }

def pool2 : Array CpInfo := pool [(2, .class_ 4), (1, u "java/lang/Object"), (0, u "<init>"), (0, u "()V"), (0, .long 13787848793156543929), (1, .long 10723151780598845931), (1, .class_ 12), (0, u "com/example/elderflower/elderflower/Hashing"), (6, u "LITTLE_ENDIAN_LONG"), (0, u "Ljava/lang/invoke/VarHandle;"), (16, u "mix"), (0, u "(J)J"), (10, u "LITTLE_ENDIAN_INT"), (31, u "GAMMA"), (0, u "J")] 12

def k2m0 : Method := { name := "<init>", desc := "()V", sig := { parameters := [], returnType := none }, accessFlags := 2, code := none }
def k2c1 : Code := { maxStack := 5, maxLocals := 4, code := prog_33_method_2_code, exceptionTable := #[], attributes := #[] }
def k2m1 : Method := { name := "mix", desc := "(J)J", sig := { parameters := [.long], returnType := some .long }, accessFlags := 8, code := some k2c1 }
/-- com/example/elderflower/elderflower/Hashing -/
def k2 : Class := { plain "com/example/elderflower/elderflower/Hashing" (some 0) with
  accessFlags := 32
  interfaces := #[]
  cf := some (fileOf pool2 11 #[] #[{ accessFlags := 2, nameIndex := 5, descriptorIndex := 6, attributes := #[] }, { accessFlags := 8, nameIndex := 37, descriptorIndex := 38, attributes := #[] }] 32 2 #[] #[{ accessFlags := 26, nameIndex := 81, descriptorIndex := 82, attributes := #[] }, { accessFlags := 26, nameIndex := 19, descriptorIndex := 20, attributes := #[] }, { accessFlags := 26, nameIndex := 49, descriptorIndex := 20, attributes := #[] }])
  fields := #[{ name := "GAMMA", type := .long, accessFlags := 26, slot := 0, constantValue := 0 }, { name := "LITTLE_ENDIAN_LONG", type := (.object "java/lang/invoke/VarHandle"), accessFlags := 26, slot := 1, constantValue := 0 }, { name := "LITTLE_ENDIAN_INT", type := (.object "java/lang/invoke/VarHandle"), accessFlags := 26, slot := 2, constantValue := 0 }]
  methods := #[k2m0, k2m1]
  instanceTypes := #[]
  staticTypes := #[.long, (.object "java/lang/invoke/VarHandle"), (.object "java/lang/invoke/VarHandle")]
  resolved := Array.replicate 95 none
  statics := none }

def pool3 : Array CpInfo := pool [(1, u "java/lang/Cloneable"), (0, .class_ 1), (0, u "java/lang/Object"), (0, .class_ 3)] 3

/-- java/lang/Cloneable -/
def k3 : Class := { plain "java/lang/Cloneable" (some 0) with
  accessFlags := 1537
  interfaces := #[]
  cf := some (fileOf pool3 2 #[] #[] 1537 4 #[] #[])
  fields := #[]
  methods := #[]
  instanceTypes := #[]
  staticTypes := #[]
  resolved := Array.replicate 8 none
  statics := none }

def pool4 : Array CpInfo := pool [(1, u "java/io/Serializable"), (0, .class_ 1), (0, u "java/lang/Object"), (0, .class_ 3)] 3

/-- java/io/Serializable -/
def k4 : Class := { plain "java/io/Serializable" (some 0) with
  accessFlags := 1537
  interfaces := #[]
  cf := some (fileOf pool4 2 #[] #[] 1537 4 #[] #[])
  fields := #[]
  methods := #[]
  instanceTypes := #[]
  staticTypes := #[]
  resolved := Array.replicate 8 none
  statics := none }

/-- the primitive byte -/
def k5 : Class := { plain "byte" none with kind := .primitive 'B', accessFlags := 0x411 }
/-- [B -/
def k6 : Class := { plain "[B" (some 0) with kind := .array 5 .byte, interfaces := #[3, 4], accessFlags := 1041 }

/-- the primitive int -/
def k7 : Class := { plain "int" none with kind := .primitive 'I', accessFlags := 0x411 }
/-- [I -/
def k8 : Class := { plain "[I" (some 0) with kind := .array 7 .int, interfaces := #[3, 4], accessFlags := 1041 }

def heap : Heap := #[]
def classes : Array Class := #[k0, k1, k2, k3, k4, k5, k6, k7, k8]
def interned : List (Array UInt16 × Addr) := []
def slotsUsed : Nat := 0
def theMethod : MethodId := ⟨1, 4⟩
def args0 : Array Value := #[.long 5]
def aboutOver (below : List Frame) : State where
  vm := { classes := classes, interned := interned.toArray }
  heap := heap
  slotsUsed := slotsUsed
  threads := #[{ frames := .invoking theMethod args0 :: below }]
def below0 : List Frame := [.native { method := ⟨0, 0⟩, args := #[] }]
def about1 : State := aboutOver below0
def p0 : Program := .bare "" "" ""
def e0 : Env := launch0.env 0 0 0
theorem w_frames : about1.frames = Frame.invoking theMethod args0 :: below0 := rfl
set_option maxRecDepth 65536 in
theorem w_args : argsFit about1.vm theMethod args0 = true := by decide +kernel
set_option maxRecDepth 65536 in
theorem w_heap : heapFits about1 = true := by decide +kernel
set_option maxRecDepth 65536 in
theorem w_runnable : about1.curStatus? = some .runnable := by decide +kernel
set_option maxRecDepth 65536 in
theorem w_alone : about1.alone = true := by decide +kernel
set_option maxRecDepth 65536 in
theorem w_named : about1.methodNamed? x = some theMethod := by decide +kernel
set_option maxRecDepth 65536 in
theorem w_hears : about1.hears theMethod below0 = true := by decide +kernel
set_option maxRecDepth 65536 in
theorem w_ripe : about1.ripe theMethod args0 below0 = true := by decide +kernel
theorem w_running : about1.status = .running := rfl
set_option maxRecDepth 65536 in
theorem w_room : about1.hasRoom e0.platform room_1 = true :=
  launch0.hasRoom_least _ room_1 (by decide +kernel) (by decide +kernel) (by decide +kernel) (by decide +kernel) (by decide +kernel) (by decide +kernel)
theorem allAtoms_all (ts : List Jvm.Cond) (a : Array Jvm.Value) (st : Jvm.State) : (allAtoms ts).before a st = ts.all (fun c => c.before a st) := by
  induction ts with
  | nil => rfl
  | cons c t ih =>
    show (Jvm.Cond.and c (allAtoms t)).before a st = _
    rw [Jvm.Cond.before_and, ih, List.all_cons]
def words1 : List Jvm.Cond := Jvm.Cond.code x code maxLocals ret :: tables_1
/-- a 'code' word, met by the world's own term for the bytes: nothing is compared byte by byte -/
theorem code_word {y : MethodName} {bytes : ByteArray} {mx : Nat} {rt : Option FieldType} {a : Array Value} {s : State} {m : MethodId} {meth : Method} {c : Code} (h1 : s.methodNamed? y = some m) (h2 : s.vm.method? m = some meth) (h3 : meth.code = some c) (h4 : c.code = bytes)
    (h5 : (c.maxLocals == mx && c.exceptionTable.isEmpty && decide (c.maxStack ≤ mostOperands) && decide (meth.sig.returnType = rt) && !meth.locks && decide (parseMethodDescriptor y.desc = some meth.sig)) = true) : (Jvm.Cond.code y bytes mx rt).before a s = true := by
  simp only [Bool.and_eq_true, beq_iff_eq, Bool.not_eq_true', decide_eq_true_eq] at h5
  obtain ⟨⟨⟨⟨⟨g1, g2⟩, g3⟩, g4⟩, g5⟩, g6⟩ := h5
  simp [Cond.before, Cond.holds, Cond.value, h1, h2, h3, h4, g1, g2, g3, g4, g5, g6]
def isCode : Jvm.Cond → Bool
  | .code _ _ _ _ => true
  | _ => false
theorem all_split {L : List Jvm.Cond} {P : Jvm.Cond → Bool} (h1 : L.all (fun c => isCode c || P c) = true) (h2 : ∀ c ∈ L.filter isCode, P c = true) : L.all P = true := by
  refine List.all_eq_true.mpr fun c hc => ?_
  have h := List.all_eq_true.mp h1 c hc
  rcases Bool.eq_false_or_eq_true (isCode c) with hi | hi
  · exact h2 c (List.mem_filter.mpr ⟨hc, hi⟩)
  · simpa [hi] using h
set_option maxRecDepth 65536 in
theorem w_c0 : (Jvm.Cond.code x code maxLocals ret).before args0 about1 = true := code_word (m := ⟨1, 4⟩) (meth := k1m4) (c := k1c4) (by decide +kernel) rfl rfl rfl (by decide +kernel)
set_option maxRecDepth 65536 in
theorem w_c1 : (Jvm.Cond.code ({ cls := "com/example/elderflower/elderflower/Hashing", name := "mix", desc := "(J)J" } : Jvm.MethodName) prog_33_method_2_code (4 : Nat) (Option.some Jvm.ClassFile.FieldType.long)).before args0 about1 = true := code_word (m := ⟨2, 1⟩) (meth := k2m1) (c := k2c1) (by decide +kernel) rfl rfl rfl (by decide +kernel)
set_option maxRecDepth 65536 in
theorem w_c2 : (Jvm.Cond.code ({ cls := "com/example/elderflower/elderflower/HashingMixPinLaw", name := "unmix", desc := "(J)J" } : Jvm.MethodName) method_4_code (6 : Nat) (Option.some Jvm.ClassFile.FieldType.long)).before args0 about1 = true := code_word (m := ⟨1, 3⟩) (meth := k1m3) (c := k1c3) (by decide +kernel) rfl rfl rfl (by decide +kernel)
set_option maxRecDepth 65536 in
theorem w_c3 : (Jvm.Cond.code ({ cls := "com/example/elderflower/elderflower/HashingMixPinLaw", name := "unXorShift", desc := "(JI)J" } : Jvm.MethodName) method_3_code (3 : Nat) (Option.some Jvm.ClassFile.FieldType.long)).before args0 about1 = true := code_word (m := ⟨1, 2⟩) (meth := k1m2) (c := k1c2) (by decide +kernel) rfl rfl rfl (by decide +kernel)
set_option maxRecDepth 65536 in
theorem w_c4 : (Jvm.Cond.code ({ cls := "com/example/elderflower/elderflower/HashingMixPinLaw", name := "inverse", desc := "(J)J" } : Jvm.MethodName) method_2_code (4 : Nat) (Option.some Jvm.ClassFile.FieldType.long)).before args0 about1 = true := code_word (m := ⟨1, 1⟩) (meth := k1m1) (c := k1c1) (by decide +kernel) rfl rfl rfl (by decide +kernel)
def codes1 : List Jvm.Cond := [Jvm.Cond.code x code maxLocals ret, Jvm.Cond.code ({ cls := "com/example/elderflower/elderflower/Hashing", name := "mix", desc := "(J)J" } : Jvm.MethodName) prog_33_method_2_code (4 : Nat) (Option.some Jvm.ClassFile.FieldType.long), Jvm.Cond.code ({ cls := "com/example/elderflower/elderflower/HashingMixPinLaw", name := "unmix", desc := "(J)J" } : Jvm.MethodName) method_4_code (6 : Nat) (Option.some Jvm.ClassFile.FieldType.long), Jvm.Cond.code ({ cls := "com/example/elderflower/elderflower/HashingMixPinLaw", name := "unXorShift", desc := "(JI)J" } : Jvm.MethodName) method_3_code (3 : Nat) (Option.some Jvm.ClassFile.FieldType.long), Jvm.Cond.code ({ cls := "com/example/elderflower/elderflower/HashingMixPinLaw", name := "inverse", desc := "(J)J" } : Jvm.MethodName) method_2_code (4 : Nat) (Option.some Jvm.ClassFile.FieldType.long)]
set_option maxRecDepth 65536 in
theorem codes_eq : words1.filter isCode = codes1 := rfl
theorem w_codes : ∀ c ∈ words1.filter isCode, c.before args0 about1 = true := by
  rw [codes_eq]
  intro c hc
  simp only [codes1, List.mem_cons, List.not_mem_nil, or_false] at hc
  rcases hc with rfl | rfl | rfl | rfl | rfl
  · exact w_c0
  · exact w_c1
  · exact w_c2
  · exact w_c3
  · exact w_c4
set_option maxRecDepth 65536 in
theorem w_t1 : words1.all (fun c => isCode c || c.before args0 about1) = true := by decide +kernel
theorem w_tables : (allAtoms (Jvm.Cond.code x code maxLocals ret :: tables_1)).before args0 about1 = true := by
  rw [allAtoms_all]
  show words1.all (fun c => c.before args0 about1) = true
  refine all_split ?_ w_codes
  rw [w_t1]
set_option maxRecDepth 65536 in
theorem w_case : (Jvm.Cond.and given_1 narrow_1).before args0 about1 = true := by decide +kernel
theorem w_applies : (headSpec (Jvm.Cond.code x code maxLocals ret :: tables_1) room_1).applies x e0.platform about1 = true :=
  (Spec.applies_iff w_frames).mpr ⟨w_running, w_runnable, w_alone, w_named, w_hears, w_ripe, w_room, w_tables⟩
theorem atStart : AtStart classFile x code maxLocals ret World_1 tables_1 room_1 Calls_1 rest_1 Pre_1 launch0 p0 e0 about1 theMethod args0 below0 :=
  ⟨lists_1, trivial, launch0.admits_env _ _ _, launch0.least_env, fairChoices_fair.cas, fairChoices_fair.clock, w_frames, w_args, w_heap, w_applies, trivial, trivial, w_case⟩
end start1
theorem witness_1 : WitnessClaimed_1 := ⟨start1.p0, start1.e0, start1.about1, start1.theMethod, start1.args0, start1.below0, start1.atStart⟩
end Jvm.Pilot.@@N@@
