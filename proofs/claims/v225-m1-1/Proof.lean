import JvmDerived
import JvmDerived.Pilot.@@N@@Statement
import JvmDerived.Pilot.@@N@@Code
set_option linter.unusedVariables false
set_option linter.unusedSimpArgs false
@@BLOCK:NumsL.lean.txt@@
namespace Jvm.RoadKit
open Sem ClassFile Op Lib Jvm.Stand Jvm.Free Jvm.LawKit
section New
variable {p : Program} {l : Launch} {e : Env} {R : Room} {s : State} {m : MethodId} {args : Array Value} {below : List Frame} {meth : Method} {c : Code} {T : State} {locs : List Loc} {cells slots : Nat}
theorem retI (X : Stand p l e R s m args below meth c T locs cells slots) (hx : p.tables.exec = Jvm.exec) {pc : Nat} {Ls : Array Slot} {z : Int32} {rest : List Value} (hret : meth.sig.returnType = some .int) (hd : decode c.code pc = .ok (.ireturn, 1)) {fs : List Frame}
    (hl : ∀ (f : JFrame) (acts : List Action), f.method = m → f.locked = none → f.entered = [] → (doReturn e (T.setTop f) acts (some (.int z))).1 = T.setFrames fs) : Steps p.tables e below (T.setTop (mkF m pc Ls (.int z :: rest))) (T.setFrames fs) := by
  have hm' : T.vm.method? m = some meth := X.method'
  have hn : narrow .int (.int z) = .int z := rfl
  show Steps p.tables e below (T.setTop { method := m, pc := pc, locals := Ls, stack := _ :: rest, locked := none }) _
  jvm_step X.here [X.here.top, hx, hd, hm', hret, hn]
  first | (intro acts; rw [hl _ acts rfl rfl rfl]) | rw [hl _ _ rfl rfl rfl]
  exact Steps.refl _
end New
end Jvm.RoadKit
namespace Jvm.Pilot.@@N@@
open Jvm Jvm.ClassFile Sem Op Lib Jvm.Free Jvm.Stand Jvm.LawKit Jvm.RoadKit Bundle Jvm.Pilot.@@N@@.Jvm.D
/-- a body that returns r, makes and writes nothing -/
def QP (r : Value) (h0 : Heap) (n0 : Nat) (v : Option Value) (h : Heap) (L : List Loc) : Prop := v = some r ∧ Fr n0 L ∧ h = h0
theorem own_d_prog_20_method_2_code_0 : decode prog_20_method_2_code 0 = .ok (.lload_n 0, 1) := by decide +kernel
theorem own_d_prog_20_method_2_code_1 : decode prog_20_method_2_code 1 = .ok (.lload_n 2, 1) := by decide +kernel
theorem own_d_prog_20_method_2_code_2 : decode prog_20_method_2_code 2 = .ok (.lxor, 1) := by decide +kernel
theorem own_d_prog_20_method_2_code_3 : decode prog_20_method_2_code 3 = .ok (.ldc2_w 7, 3) := by decide +kernel
theorem own_d_prog_20_method_2_code_6 : decode prog_20_method_2_code 6 = .ok (.lmul, 1) := by decide +kernel
theorem own_d_prog_20_method_2_code_7 : decode prog_20_method_2_code 7 = .ok (.lstore 4, 2) := by decide +kernel
theorem own_d_prog_20_method_2_code_9 : decode prog_20_method_2_code 9 = .ok (.lload 4, 2) := by decide +kernel
theorem own_d_prog_20_method_2_code_11 : decode prog_20_method_2_code 11 = .ok (.lload 4, 2) := by decide +kernel
theorem own_d_prog_20_method_2_code_13 : decode prog_20_method_2_code 13 = .ok (.bipush 31, 2) := by decide +kernel
theorem own_d_prog_20_method_2_code_15 : decode prog_20_method_2_code 15 = .ok (.lushr, 1) := by decide +kernel
theorem own_d_prog_20_method_2_code_16 : decode prog_20_method_2_code 16 = .ok (.lxor, 1) := by decide +kernel
theorem own_d_prog_20_method_2_code_17 : decode prog_20_method_2_code 17 = .ok (.lreturn, 1) := by decide +kernel
theorem own_pd0 : parseMethodDescriptor "(JJ)J" = some ⟨[.long, .long], some .long⟩ := by decide +kernel
theorem own_pn0 : plainName "com/example/sameshape/sameshape/diff/Digest" = true := by first | (simp [plainName, overriddenIn]; done) | decide +kernel
theorem own_pn1 : plainName "com/example/sameshape/sameshape/diff/DigestFoldPinLaw" = true := by first | (simp [plainName, overriddenIn]; done) | decide +kernel
def QL (n0 : Nat) (v : Option Value) (h : Heap) (L : List Loc) : Prop := v = some (.int 1) ∧ Fr n0 L
theorem own_lc0 {a b : Int64} (h : a = b) : lcmpW a b = 0 := (lcW a b).trans ((lc_eq a b).mpr h)
theorem own_lcn {a b : Int64} (h : ¬ a = b) : ¬ lcmpW a b = 0 := fun q => h ((lc_eq a b).mp ((lcW a b).symm.trans q))
theorem own_lclt {a b : Int64} (h : a < b) : lcmpW a b < 0 := (lcW a b).symm ▸ (lc_lt a b).mpr h
theorem own_lcge {a b : Int64} (h : ¬ a < b) : ¬ lcmpW a b < 0 := fun q => h ((lc_lt a b).mp ((lcW a b) ▸ q))
theorem own_lcgt {a b : Int64} (h : b < a) : 0 < lcmpW a b := (lcW a b).symm ▸ (lc_gt a b).mpr h
theorem own_lcle {a b : Int64} (h : ¬ b < a) : ¬ 0 < lcmpW a b := fun q => h ((lc_gt a b).mp ((lcW a b) ▸ q))
theorem own_unxB (z : BitVec 64) (s : Nat) (h : 64 ≤ 3 * s) : ((z ^^^ z >>> s) ^^^ (z ^^^ z >>> s) >>> s) ^^^ (z ^^^ z >>> s) >>> (2 * s) = z := by
  apply BitVec.eq_of_getLsbD_eq
  intro i hi
  simp only [BitVec.getLsbD_xor, BitVec.getLsbD_ushiftRight]
  have e1 : s + (s + i) = 2 * s + i := by omega
  have e2 : z.getLsbD (s + (2 * s + i)) = false := BitVec.getLsbD_of_ge _ _ (by omega)
  rw [e1, e2]
  cases z.getLsbD i <;> cases z.getLsbD (s + i) <;> cases z.getLsbD (2 * s + i) <;> rfl
def own_fold (a b : Int64) : Int64 := (((a ^^^ b) * (-7046029254386353131 : Int64)) ^^^ ((((a ^^^ b) * (-7046029254386353131 : Int64)).toUInt64 >>> ((31 : Int32) &&& 0x3f).toInt64.toUInt64).toInt64))
theorem own_back (z : Int64) : (((z ^^^ (z.toUInt64 >>> ((31 : Int32) &&& 0x3f).toInt64.toUInt64).toInt64) ^^^ ((z ^^^ (z.toUInt64 >>> ((31 : Int32) &&& 0x3f).toInt64.toUInt64).toInt64).toUInt64 >>> ((31 : Int32) &&& 0x3f).toInt64.toUInt64).toInt64) ^^^ ((z ^^^ (z.toUInt64 >>> ((31 : Int32) &&& 0x3f).toInt64.toUInt64).toInt64).toUInt64 >>> ((62 : Int32) &&& 0x3f).toInt64.toUInt64).toInt64) = z := by
  have h31 : ((31 : Int32) &&& 0x3f).toInt64.toUInt64 = 31 := by decide +kernel
  have h62 : ((62 : Int32) &&& 0x3f).toInt64.toUInt64 = 62 := by decide +kernel
  rw [h31, h62]
  apply Int64.toBitVec_inj.mp
  simp only [Int64.toBitVec_xor, UInt64.toBitVec_toInt64, UInt64.toBitVec_shiftRight, Int64.toBitVec_toUInt64]
  exact own_unxB z.toBitVec 31 (by decide)
theorem own_ef_rm1 (m : MethodId) (y0 : Int64) (y1 : Int64) : entryFrame m #[(.long y0), (.long y1)] 6 = mkF m 0 #[.val (.long y0), .second, .val (.long y1), .second, .unset, .unset] [] := by first | (simp [entryFrame, mkF, argsToLocals, Value.category]; done) | rfl
set_option maxRecDepth 65536 in
set_option maxHeartbeats 40000000 in
theorem rm1 (l : Launch) (Z : State) (a0 : Array Value) (hw : ∀ d ∈ tables_1, d.before a0 Z = true) (ws : List Jvm.Cond) (p1 p2 : Int64) (h0 : Heap) (n0 : Nat) (Z0 : n0 ≤ h0.size)  :
    MetFree l (⟨"com/example/sameshape/sameshape/diff/Digest", "fold", "(JJ)J"⟩ : MethodName) (head1 (Jvm.Cond.code (⟨"com/example/sameshape/sameshape/diff/Digest", "fold", "(JJ)J"⟩ : MethodName) prog_20_method_2_code 6 (some .long) :: ws) ({ frames := 0, cells := 0, slots := 0, locals := 0 } : Room)) (fun a U => a = #[(.long p1), (.long p2)] ∧ Z.Warmed39 U.vm ∧ U.heap = h0) (fun _ _ _ _ _ => True) (fun _ U o U' => ∃ v L, o = .returned v ∧ QP (.long (own_fold p1 p2)) h0 n0 v U'.heap L ∧ FrameEnd U o U' L ({ frames := 0, cells := 0, slots := 0, locals := 0 } : Room).cells ({ frames := 0, cells := 0, slots := 0, locals := 0 } : Room).slots) := by
  refine MetFree.of_bodySF (plainFor_of_name own_pn0) hisR ?_
  intro p e s m args below meth c s₁ Bd hml0 hP hK
  obtain ⟨rfl, hZ, hh⟩ := hP
  have hx := Bd.exec
  have hby := Bd.bytes
  have hml : c.maxLocals = 6 := hml0
  have hown : s.vm.findClass "com/example/sameshape/sameshape/diff/Digest" = some m.cls := findClass_of_methodNamed Bd.named
  have hnm := (name_of_methodNamed Bd.named Bd.method).1
  have X0 : Stand p l e ({ frames := 0, cells := 0, slots := 0, locals := 0 } : Room) s m #[(.long p1), (.long p2)] below meth c s₁ [] 0 0 := Stand.of_body Bd
  have e0 : s₁.heap = h0 := by rw [← hh, Bd.state]; rfl
  have N0 := Fr.nil n0
  have pre0 : ∀ t, Steps p.tables e below (s₁.setTop (mkF m 0 #[.val (.long p1), .second, .val (.long p2), .second, .unset, .unset] [])) t → Steps p.tables e below (s₁.setTop (entryFrame m #[(.long p1), (.long p2)] 6)) t := fun t k => castTop (own_ef_rm1 m p1 p2) k
  have pre1 : ∀ t, Steps p.tables e below (s₁.setTop (mkF m 17 #[.val (.long p1), .second, .val (.long p2), .second, .val (.long ((p1 ^^^ p2) * (-7046029254386353131 : Int64))), .second] [(.long (((p1 ^^^ p2) * (-7046029254386353131 : Int64)) ^^^ ((((p1 ^^^ p2) * (-7046029254386353131 : Int64)).toUInt64 >>> ((31 : Int32) &&& 0x3f).toInt64.toUInt64).toInt64)))])) t → Steps p.tables e below (s₁.setTop (entryFrame m #[(.long p1), (.long p2)] 6)) t := fun t k => pre0 t (by
    show Steps p.tables e below (s₁.setTop (mkF m 0 #[.val (.long p1), .second, .val (.long p2), .second, .unset, .unset] [])) _
    refine XS.lloadN X0.here hx rfl (hb hby own_d_prog_20_method_2_code_0) rfl ?_
    show Steps p.tables e below (s₁.setTop (mkF m 1 #[.val (.long p1), .second, .val (.long p2), .second, .unset, .unset] [(.long p1)])) _
    refine XS.lloadN X0.here hx rfl (hb hby own_d_prog_20_method_2_code_1) rfl ?_
    show Steps p.tables e below (s₁.setTop (mkF m 2 #[.val (.long p1), .second, .val (.long p2), .second, .unset, .unset] [(.long p2), (.long p1)])) _
    refine XS.lxor X0.here hx rfl (hb hby own_d_prog_20_method_2_code_2) rfl ?_
    show Steps p.tables e below (s₁.setTop (mkF m 3 #[.val (.long p1), .second, .val (.long p2), .second, .unset, .unset] [(.long (p1 ^^^ p2))])) _
    refine X0.ldc2Long hx hown (mvT hZ (hw _ (List.mem_of_getElem? (i := 6) rfl))) (g := (mkF m 3 #[.val (.long p1), .second, .val (.long p2), .second, .unset, .unset] [(.long (p1 ^^^ p2))])) rfl (hb hby own_d_prog_20_method_2_code_3) _ ?_
    show Steps p.tables e below (s₁.setTop (mkF m 6 #[.val (.long p1), .second, .val (.long p2), .second, .unset, .unset] [(.long (-7046029254386353131 : Int64)), (.long (p1 ^^^ p2))])) _
    refine XS.lmul X0.here hx rfl (hb hby own_d_prog_20_method_2_code_6) rfl ?_
    show Steps p.tables e below (s₁.setTop (mkF m 7 #[.val (.long p1), .second, .val (.long p2), .second, .unset, .unset] [(.long ((p1 ^^^ p2) * (-7046029254386353131 : Int64)))])) _
    refine XS.lstore X0.here hx rfl (hb hby own_d_prog_20_method_2_code_7) rfl (l' := #[.val (.long p1), .second, .val (.long p2), .second, .val (.long ((p1 ^^^ p2) * (-7046029254386353131 : Int64))), .second]) rfl ?_
    show Steps p.tables e below (s₁.setTop (mkF m 9 #[.val (.long p1), .second, .val (.long p2), .second, .val (.long ((p1 ^^^ p2) * (-7046029254386353131 : Int64))), .second] [])) _
    refine XS.lload X0.here hx rfl (hb hby own_d_prog_20_method_2_code_9) rfl ?_
    show Steps p.tables e below (s₁.setTop (mkF m 11 #[.val (.long p1), .second, .val (.long p2), .second, .val (.long ((p1 ^^^ p2) * (-7046029254386353131 : Int64))), .second] [(.long ((p1 ^^^ p2) * (-7046029254386353131 : Int64)))])) _
    refine XS.lload X0.here hx rfl (hb hby own_d_prog_20_method_2_code_11) rfl ?_
    show Steps p.tables e below (s₁.setTop (mkF m 13 #[.val (.long p1), .second, .val (.long p2), .second, .val (.long ((p1 ^^^ p2) * (-7046029254386353131 : Int64))), .second] [(.long ((p1 ^^^ p2) * (-7046029254386353131 : Int64))), (.long ((p1 ^^^ p2) * (-7046029254386353131 : Int64)))])) _
    refine XS.bipush X0.here hx rfl (hb hby own_d_prog_20_method_2_code_13) ?_
    show Steps p.tables e below (s₁.setTop (mkF m 15 #[.val (.long p1), .second, .val (.long p2), .second, .val (.long ((p1 ^^^ p2) * (-7046029254386353131 : Int64))), .second] [(.int (31 : Int32)), (.long ((p1 ^^^ p2) * (-7046029254386353131 : Int64))), (.long ((p1 ^^^ p2) * (-7046029254386353131 : Int64)))])) _
    refine XS.lushr X0.here hx rfl (hb hby own_d_prog_20_method_2_code_15) rfl ?_
    show Steps p.tables e below (s₁.setTop (mkF m 16 #[.val (.long p1), .second, .val (.long p2), .second, .val (.long ((p1 ^^^ p2) * (-7046029254386353131 : Int64))), .second] [(.long ((((p1 ^^^ p2) * (-7046029254386353131 : Int64)).toUInt64 >>> ((31 : Int32) &&& 0x3f).toInt64.toUInt64).toInt64)), (.long ((p1 ^^^ p2) * (-7046029254386353131 : Int64)))])) _
    refine XS.lxor X0.here hx rfl (hb hby own_d_prog_20_method_2_code_16) rfl ?_
    exact k)
  obtain ⟨fs, hr, hrun, hended, hW, hsame⟩ := X0.leave (v := some (.long (((p1 ^^^ p2) * (-7046029254386353131 : Int64)) ^^^ ((((p1 ^^^ p2) * (-7046029254386353131 : Int64)).toUInt64 >>> ((31 : Int32) &&& 0x3f).toInt64.toUInt64).toInt64)))) (fun h => by rw [Bd.returns] at h; cases h)
  refine ⟨_, _, pre1 _ ?_, hrun, hended, _, _, rfl, ?_, ⟨_, rfl⟩, hW, hsame.mono (by decide) (by decide)⟩
  · show Steps p.tables e below (s₁.setTop (mkF m 17 #[.val (.long p1), .second, .val (.long p2), .second, .val (.long ((p1 ^^^ p2) * (-7046029254386353131 : Int64))), .second] [(.long (((p1 ^^^ p2) * (-7046029254386353131 : Int64)) ^^^ ((((p1 ^^^ p2) * (-7046029254386353131 : Int64)).toUInt64 >>> ((31 : Int32) &&& 0x3f).toInt64.toUInt64).toInt64)))])) _
    exact retOut X0 hx (t := .long) (i := .lreturn) Bd.returns rfl (Or.inr (Or.inl ⟨rfl, rfl, _, rfl⟩)) (hb hby own_d_prog_20_method_2_code_17) hr
  · show QP (.long (own_fold p1 p2)) h0 n0 _ s₁.heap _
    rw [e0]
    exact ⟨rfl, N0, rfl⟩
theorem own_ef_rm0 (m : MethodId) (y0 : Int64) (y1 : Int64) : entryFrame m #[(.long y0), (.long y1)] maxLocals = mkF m 0 #[.val (.long y0), .second, .val (.long y1), .second, .unset, .unset, .unset, .unset, .unset, .unset, .unset, .unset, .unset, .unset] [] := by first | (simp [entryFrame, mkF, argsToLocals, Value.category, maxLocals]; done) | rfl
set_option maxRecDepth 65536 in
set_option maxHeartbeats 40000000 in
theorem rm0 (l : Launch) (Z : State) (a0 : Array Value) (hw : ∀ d ∈ tables_1, d.before a0 Z = true) (ws : List Jvm.Cond) (p1 p2 : Int64) (h0 : Heap) (n0 : Nat) (Z0 : n0 ≤ h0.size)  :
    MetFree l x (head1 (Jvm.Cond.code x code maxLocals ret :: ws) room_1) (fun a U => a = #[(.long p1), (.long p2)] ∧ Z.Warmed39 U.vm ∧ U.heap = h0) (fun _ _ _ _ _ => True) (fun _ U o U' => ∃ v L, o = .returned v ∧ QL n0 v U'.heap L ∧ FrameEnd U o U' L 0 0) := by
  refine MetFree.of_bodySF (plainFor_of_name own_pn1) hisR ?_
  intro p e s m args below meth c s₁ Bd hml0 hP hK
  obtain ⟨rfl, hZ, hh⟩ := hP
  have hx := Bd.exec
  have hby := Bd.bytes
  have hml : c.maxLocals = 14 := hml0
  have hown : s.vm.findClass "com/example/sameshape/sameshape/diff/DigestFoldPinLaw" = some m.cls := findClass_of_methodNamed Bd.named
  have hnm := (name_of_methodNamed Bd.named Bd.method).1
  have X0 : Stand p l e room_1 s m #[(.long p1), (.long p2)] below meth c s₁ [] 0 0 := Stand.of_body Bd
  have e0 : s₁.heap = h0 := by rw [← hh, Bd.state]; rfl
  have N0 := Fr.nil n0
  have pre0 : ∀ t, Steps p.tables e below (s₁.setTop (mkF m 0 #[.val (.long p1), .second, .val (.long p2), .second, .unset, .unset, .unset, .unset, .unset, .unset, .unset, .unset, .unset, .unset] [])) t → Steps p.tables e below (s₁.setTop (entryFrame m #[(.long p1), (.long p2)] maxLocals)) t := fun t k => castTop (own_ef_rm0 m p1 p2) k
  have fold1 : ((-7046029254386353131 : Int64) * (-7046029254386353131 : Int64)) = (-2358710677322311239 : Int64) := by decide +kernel
  have fold2 : ((2 : Int64) - (-2358710677322311239 : Int64)) = (2358710677322311241 : Int64) := by decide +kernel
  have fold3 : ((-7046029254386353131 : Int64) * (2358710677322311241 : Int64)) = (-2583774743925227523 : Int64) := by decide +kernel
  have fold4 : ((-7046029254386353131 : Int64) * (-2583774743925227523 : Int64)) = (-1926143945988994111 : Int64) := by decide +kernel
  have fold5 : ((2 : Int64) - (-1926143945988994111 : Int64)) = (1926143945988994113 : Int64) := by decide +kernel
  have fold6 : ((-2583774743925227523 : Int64) * (1926143945988994113 : Int64)) = (-7997709970472590531 : Int64) := by decide +kernel
  have fold7 : ((-7046029254386353131 : Int64) * (-7997709970472590531 : Int64)) = (-8194862502375985151 : Int64) := by decide +kernel
  have fold8 : ((2 : Int64) - (-8194862502375985151 : Int64)) = (8194862502375985153 : Int64) := by decide +kernel
  have fold9 : ((-7997709970472590531 : Int64) * (8194862502375985153 : Int64)) = (-3854543043844148419 : Int64) := by decide +kernel
  have fold10 : ((-7046029254386353131 : Int64) * (-3854543043844148419 : Int64)) = (-7769303150418198527 : Int64) := by decide +kernel
  have fold11 : ((2 : Int64) - (-7769303150418198527 : Int64)) = (7769303150418198529 : Int64) := by decide +kernel
  have fold12 : ((-3854543043844148419 : Int64) * (7769303150418198529 : Int64)) = (6782847518758105917 : Int64) := by decide +kernel
  have fold13 : ((-7046029254386353131 : Int64) * (6782847518758105917 : Int64)) = (6160642815266127873 : Int64) := by decide +kernel
  have fold14 : ((2 : Int64) - (6160642815266127873 : Int64)) = (-6160642815266127871 : Int64) := by decide +kernel
  have fold15 : ((6782847518758105917 : Int64) * (-6160642815266127871 : Int64)) = (-1018231460777725123 : Int64) := by decide +kernel
  obtain ⟨_, _, ⟨T16, L16, k16, n16⟩, -, X16, ⟨Lc16, hQ16, l16, y16, z16⟩, st16⟩ := Jvm.LawKit.callS X0 hx (y := (⟨"com/example/sameshape/sameshape/diff/Digest", "fold", "(JJ)J"⟩ : MethodName)) hown (mvT hZ (hw _ (List.mem_of_getElem? (i := 2) rfl))) (mvT hZ (hw _ (List.mem_of_getElem? (i := 3) rfl))) (mvT hZ (hw _ (List.mem_of_getElem? (i := 4) rfl))) (mvT hZ (hw _ (List.mem_of_getElem? (i := 5) rfl))) (by decide) (backOf (W := 0) (rm1 l Z a0 hw [] p1 p2  h0 n0 Z0 ) hZ (hw _ (List.mem_of_getElem? (i := 5) rfl)) (hw _ (List.mem_of_getElem? (i := 4) rfl)) (by decide) (by decide)) (g := (mkF m 81 #[.val (.long p1), .second, .val (.long p2), .second, .val (.long (-7046029254386353131 : Int64)), .second, .val (.long (-1018231460777725123 : Int64)), .second, .unset, .unset, .unset, .unset, .unset, .unset] [(.long p2), (.long p1)])) rfl (by rw [hml]; rfl) (argsL := [(.long p1), (.long p2)]) (rest := []) (lenOf own_pd0 rfl) rfl (by show 2 * 0 + _ ≤ _; exact Nat.le_of_eq rfl) (hb hby at_81) (fun _ _ => ⟨rfl, e0, (by decide : 0 + 0 ≤ _), (by decide : 0 + 0 ≤ _)⟩)
  dsimp only [Pt.U, Pt.locs, Pt.cells, Pt.slots] at X16 l16 y16 z16 st16 hQ16
  subst l16 y16 z16
  obtain ⟨rfl, N16q, e16⟩ := hQ16
  have N16 := Fr.app N0 N16q
  have hy : (((own_fold p1 p2) ^^^ (((own_fold p1 p2).toUInt64 >>> ((31 : Int32) &&& 0x3f).toInt64.toUInt64).toInt64)) ^^^ (((own_fold p1 p2).toUInt64 >>> ((62 : Int32) &&& 0x3f).toInt64.toUInt64).toInt64)) = (p1 ^^^ p2) * (-7046029254386353131 : Int64) := own_back _
  have pre17 : ∀ t, Steps p.tables e below (T16.setTop (mkF m 100 #[.val (.long p1), .second, .val (.long p2), .second, .val (.long (-7046029254386353131 : Int64)), .second, .val (.long (-1018231460777725123 : Int64)), .second, .val (.long (own_fold p1 p2)), .second, .unset, .unset, .unset, .unset] [(.long (((own_fold p1 p2) ^^^ (((own_fold p1 p2).toUInt64 >>> ((31 : Int32) &&& 0x3f).toInt64.toUInt64).toInt64)) ^^^ (((own_fold p1 p2).toUInt64 >>> ((62 : Int32) &&& 0x3f).toInt64.toUInt64).toInt64)))])) t → Steps p.tables e below (s₁.setTop (entryFrame m #[(.long p1), (.long p2)] maxLocals)) t := fun t k => pre0 t (by
    show Steps p.tables e below (s₁.setTop (mkF m 0 #[.val (.long p1), .second, .val (.long p2), .second, .unset, .unset, .unset, .unset, .unset, .unset, .unset, .unset, .unset, .unset] [])) _
    refine X0.ldc2Long hx hown (mvT hZ (hw _ (List.mem_of_getElem? (i := 0) rfl))) (g := (mkF m 0 #[.val (.long p1), .second, .val (.long p2), .second, .unset, .unset, .unset, .unset, .unset, .unset, .unset, .unset, .unset, .unset] [])) rfl (hb hby at_0) _ ?_
    show Steps p.tables e below (s₁.setTop (mkF m 3 #[.val (.long p1), .second, .val (.long p2), .second, .unset, .unset, .unset, .unset, .unset, .unset, .unset, .unset, .unset, .unset] [(.long (-7046029254386353131 : Int64))])) _
    refine XS.lstore X0.here hx rfl (hb hby at_3) rfl (l' := #[.val (.long p1), .second, .val (.long p2), .second, .val (.long (-7046029254386353131 : Int64)), .second, .unset, .unset, .unset, .unset, .unset, .unset, .unset, .unset]) rfl ?_
    show Steps p.tables e below (s₁.setTop (mkF m 5 #[.val (.long p1), .second, .val (.long p2), .second, .val (.long (-7046029254386353131 : Int64)), .second, .unset, .unset, .unset, .unset, .unset, .unset, .unset, .unset] [])) _
    refine XS.lload X0.here hx rfl (hb hby at_5) rfl ?_
    show Steps p.tables e below (s₁.setTop (mkF m 7 #[.val (.long p1), .second, .val (.long p2), .second, .val (.long (-7046029254386353131 : Int64)), .second, .unset, .unset, .unset, .unset, .unset, .unset, .unset, .unset] [(.long (-7046029254386353131 : Int64))])) _
    refine XS.lstore X0.here hx rfl (hb hby at_7) rfl (l' := #[.val (.long p1), .second, .val (.long p2), .second, .val (.long (-7046029254386353131 : Int64)), .second, .val (.long (-7046029254386353131 : Int64)), .second, .unset, .unset, .unset, .unset, .unset, .unset]) rfl ?_
    show Steps p.tables e below (s₁.setTop (mkF m 9 #[.val (.long p1), .second, .val (.long p2), .second, .val (.long (-7046029254386353131 : Int64)), .second, .val (.long (-7046029254386353131 : Int64)), .second, .unset, .unset, .unset, .unset, .unset, .unset] [])) _
    refine XS.lload X0.here hx rfl (hb hby at_9) rfl ?_
    show Steps p.tables e below (s₁.setTop (mkF m 11 #[.val (.long p1), .second, .val (.long p2), .second, .val (.long (-7046029254386353131 : Int64)), .second, .val (.long (-7046029254386353131 : Int64)), .second, .unset, .unset, .unset, .unset, .unset, .unset] [(.long (-7046029254386353131 : Int64))])) _
    refine X0.ldc2Long hx hown (mvT hZ (hw _ (List.mem_of_getElem? (i := 1) rfl))) (g := (mkF m 11 #[.val (.long p1), .second, .val (.long p2), .second, .val (.long (-7046029254386353131 : Int64)), .second, .val (.long (-7046029254386353131 : Int64)), .second, .unset, .unset, .unset, .unset, .unset, .unset] [(.long (-7046029254386353131 : Int64))])) rfl (hb hby at_11) _ ?_
    show Steps p.tables e below (s₁.setTop (mkF m 14 #[.val (.long p1), .second, .val (.long p2), .second, .val (.long (-7046029254386353131 : Int64)), .second, .val (.long (-7046029254386353131 : Int64)), .second, .unset, .unset, .unset, .unset, .unset, .unset] [(.long (2 : Int64)), (.long (-7046029254386353131 : Int64))])) _
    refine XS.lload X0.here hx rfl (hb hby at_14) rfl ?_
    show Steps p.tables e below (s₁.setTop (mkF m 16 #[.val (.long p1), .second, .val (.long p2), .second, .val (.long (-7046029254386353131 : Int64)), .second, .val (.long (-7046029254386353131 : Int64)), .second, .unset, .unset, .unset, .unset, .unset, .unset] [(.long (-7046029254386353131 : Int64)), (.long (2 : Int64)), (.long (-7046029254386353131 : Int64))])) _
    refine XS.lload X0.here hx rfl (hb hby at_16) rfl ?_
    show Steps p.tables e below (s₁.setTop (mkF m 18 #[.val (.long p1), .second, .val (.long p2), .second, .val (.long (-7046029254386353131 : Int64)), .second, .val (.long (-7046029254386353131 : Int64)), .second, .unset, .unset, .unset, .unset, .unset, .unset] [(.long (-7046029254386353131 : Int64)), (.long (-7046029254386353131 : Int64)), (.long (2 : Int64)), (.long (-7046029254386353131 : Int64))])) _
    refine XS.lmul X0.here hx rfl (hb hby at_18) rfl ?_
    show Steps p.tables e below (s₁.setTop (mkF m 19 #[.val (.long p1), .second, .val (.long p2), .second, .val (.long (-7046029254386353131 : Int64)), .second, .val (.long (-7046029254386353131 : Int64)), .second, .unset, .unset, .unset, .unset, .unset, .unset] [(.long ((-7046029254386353131 : Int64) * (-7046029254386353131 : Int64))), (.long (2 : Int64)), (.long (-7046029254386353131 : Int64))])) _
    rw [fold1]
    show Steps p.tables e below (s₁.setTop (mkF m 19 #[.val (.long p1), .second, .val (.long p2), .second, .val (.long (-7046029254386353131 : Int64)), .second, .val (.long (-7046029254386353131 : Int64)), .second, .unset, .unset, .unset, .unset, .unset, .unset] [(.long (-2358710677322311239 : Int64)), (.long (2 : Int64)), (.long (-7046029254386353131 : Int64))])) _
    refine XS.lsub X0.here hx rfl (hb hby at_19) rfl ?_
    show Steps p.tables e below (s₁.setTop (mkF m 20 #[.val (.long p1), .second, .val (.long p2), .second, .val (.long (-7046029254386353131 : Int64)), .second, .val (.long (-7046029254386353131 : Int64)), .second, .unset, .unset, .unset, .unset, .unset, .unset] [(.long ((2 : Int64) - (-2358710677322311239 : Int64))), (.long (-7046029254386353131 : Int64))])) _
    rw [fold2]
    show Steps p.tables e below (s₁.setTop (mkF m 20 #[.val (.long p1), .second, .val (.long p2), .second, .val (.long (-7046029254386353131 : Int64)), .second, .val (.long (-7046029254386353131 : Int64)), .second, .unset, .unset, .unset, .unset, .unset, .unset] [(.long (2358710677322311241 : Int64)), (.long (-7046029254386353131 : Int64))])) _
    refine XS.lmul X0.here hx rfl (hb hby at_20) rfl ?_
    show Steps p.tables e below (s₁.setTop (mkF m 21 #[.val (.long p1), .second, .val (.long p2), .second, .val (.long (-7046029254386353131 : Int64)), .second, .val (.long (-7046029254386353131 : Int64)), .second, .unset, .unset, .unset, .unset, .unset, .unset] [(.long ((-7046029254386353131 : Int64) * (2358710677322311241 : Int64)))])) _
    rw [fold3]
    show Steps p.tables e below (s₁.setTop (mkF m 21 #[.val (.long p1), .second, .val (.long p2), .second, .val (.long (-7046029254386353131 : Int64)), .second, .val (.long (-7046029254386353131 : Int64)), .second, .unset, .unset, .unset, .unset, .unset, .unset] [(.long (-2583774743925227523 : Int64))])) _
    refine XS.lstore X0.here hx rfl (hb hby at_21) rfl (l' := #[.val (.long p1), .second, .val (.long p2), .second, .val (.long (-7046029254386353131 : Int64)), .second, .val (.long (-2583774743925227523 : Int64)), .second, .unset, .unset, .unset, .unset, .unset, .unset]) rfl ?_
    show Steps p.tables e below (s₁.setTop (mkF m 23 #[.val (.long p1), .second, .val (.long p2), .second, .val (.long (-7046029254386353131 : Int64)), .second, .val (.long (-2583774743925227523 : Int64)), .second, .unset, .unset, .unset, .unset, .unset, .unset] [])) _
    refine XS.lload X0.here hx rfl (hb hby at_23) rfl ?_
    show Steps p.tables e below (s₁.setTop (mkF m 25 #[.val (.long p1), .second, .val (.long p2), .second, .val (.long (-7046029254386353131 : Int64)), .second, .val (.long (-2583774743925227523 : Int64)), .second, .unset, .unset, .unset, .unset, .unset, .unset] [(.long (-2583774743925227523 : Int64))])) _
    refine X0.ldc2Long hx hown (mvT hZ (hw _ (List.mem_of_getElem? (i := 1) rfl))) (g := (mkF m 25 #[.val (.long p1), .second, .val (.long p2), .second, .val (.long (-7046029254386353131 : Int64)), .second, .val (.long (-2583774743925227523 : Int64)), .second, .unset, .unset, .unset, .unset, .unset, .unset] [(.long (-2583774743925227523 : Int64))])) rfl (hb hby at_25) _ ?_
    show Steps p.tables e below (s₁.setTop (mkF m 28 #[.val (.long p1), .second, .val (.long p2), .second, .val (.long (-7046029254386353131 : Int64)), .second, .val (.long (-2583774743925227523 : Int64)), .second, .unset, .unset, .unset, .unset, .unset, .unset] [(.long (2 : Int64)), (.long (-2583774743925227523 : Int64))])) _
    refine XS.lload X0.here hx rfl (hb hby at_28) rfl ?_
    show Steps p.tables e below (s₁.setTop (mkF m 30 #[.val (.long p1), .second, .val (.long p2), .second, .val (.long (-7046029254386353131 : Int64)), .second, .val (.long (-2583774743925227523 : Int64)), .second, .unset, .unset, .unset, .unset, .unset, .unset] [(.long (-7046029254386353131 : Int64)), (.long (2 : Int64)), (.long (-2583774743925227523 : Int64))])) _
    refine XS.lload X0.here hx rfl (hb hby at_30) rfl ?_
    show Steps p.tables e below (s₁.setTop (mkF m 32 #[.val (.long p1), .second, .val (.long p2), .second, .val (.long (-7046029254386353131 : Int64)), .second, .val (.long (-2583774743925227523 : Int64)), .second, .unset, .unset, .unset, .unset, .unset, .unset] [(.long (-2583774743925227523 : Int64)), (.long (-7046029254386353131 : Int64)), (.long (2 : Int64)), (.long (-2583774743925227523 : Int64))])) _
    refine XS.lmul X0.here hx rfl (hb hby at_32) rfl ?_
    show Steps p.tables e below (s₁.setTop (mkF m 33 #[.val (.long p1), .second, .val (.long p2), .second, .val (.long (-7046029254386353131 : Int64)), .second, .val (.long (-2583774743925227523 : Int64)), .second, .unset, .unset, .unset, .unset, .unset, .unset] [(.long ((-7046029254386353131 : Int64) * (-2583774743925227523 : Int64))), (.long (2 : Int64)), (.long (-2583774743925227523 : Int64))])) _
    rw [fold4]
    show Steps p.tables e below (s₁.setTop (mkF m 33 #[.val (.long p1), .second, .val (.long p2), .second, .val (.long (-7046029254386353131 : Int64)), .second, .val (.long (-2583774743925227523 : Int64)), .second, .unset, .unset, .unset, .unset, .unset, .unset] [(.long (-1926143945988994111 : Int64)), (.long (2 : Int64)), (.long (-2583774743925227523 : Int64))])) _
    refine XS.lsub X0.here hx rfl (hb hby at_33) rfl ?_
    show Steps p.tables e below (s₁.setTop (mkF m 34 #[.val (.long p1), .second, .val (.long p2), .second, .val (.long (-7046029254386353131 : Int64)), .second, .val (.long (-2583774743925227523 : Int64)), .second, .unset, .unset, .unset, .unset, .unset, .unset] [(.long ((2 : Int64) - (-1926143945988994111 : Int64))), (.long (-2583774743925227523 : Int64))])) _
    rw [fold5]
    show Steps p.tables e below (s₁.setTop (mkF m 34 #[.val (.long p1), .second, .val (.long p2), .second, .val (.long (-7046029254386353131 : Int64)), .second, .val (.long (-2583774743925227523 : Int64)), .second, .unset, .unset, .unset, .unset, .unset, .unset] [(.long (1926143945988994113 : Int64)), (.long (-2583774743925227523 : Int64))])) _
    refine XS.lmul X0.here hx rfl (hb hby at_34) rfl ?_
    show Steps p.tables e below (s₁.setTop (mkF m 35 #[.val (.long p1), .second, .val (.long p2), .second, .val (.long (-7046029254386353131 : Int64)), .second, .val (.long (-2583774743925227523 : Int64)), .second, .unset, .unset, .unset, .unset, .unset, .unset] [(.long ((-2583774743925227523 : Int64) * (1926143945988994113 : Int64)))])) _
    rw [fold6]
    show Steps p.tables e below (s₁.setTop (mkF m 35 #[.val (.long p1), .second, .val (.long p2), .second, .val (.long (-7046029254386353131 : Int64)), .second, .val (.long (-2583774743925227523 : Int64)), .second, .unset, .unset, .unset, .unset, .unset, .unset] [(.long (-7997709970472590531 : Int64))])) _
    refine XS.lstore X0.here hx rfl (hb hby at_35) rfl (l' := #[.val (.long p1), .second, .val (.long p2), .second, .val (.long (-7046029254386353131 : Int64)), .second, .val (.long (-7997709970472590531 : Int64)), .second, .unset, .unset, .unset, .unset, .unset, .unset]) rfl ?_
    show Steps p.tables e below (s₁.setTop (mkF m 37 #[.val (.long p1), .second, .val (.long p2), .second, .val (.long (-7046029254386353131 : Int64)), .second, .val (.long (-7997709970472590531 : Int64)), .second, .unset, .unset, .unset, .unset, .unset, .unset] [])) _
    refine XS.lload X0.here hx rfl (hb hby at_37) rfl ?_
    show Steps p.tables e below (s₁.setTop (mkF m 39 #[.val (.long p1), .second, .val (.long p2), .second, .val (.long (-7046029254386353131 : Int64)), .second, .val (.long (-7997709970472590531 : Int64)), .second, .unset, .unset, .unset, .unset, .unset, .unset] [(.long (-7997709970472590531 : Int64))])) _
    refine X0.ldc2Long hx hown (mvT hZ (hw _ (List.mem_of_getElem? (i := 1) rfl))) (g := (mkF m 39 #[.val (.long p1), .second, .val (.long p2), .second, .val (.long (-7046029254386353131 : Int64)), .second, .val (.long (-7997709970472590531 : Int64)), .second, .unset, .unset, .unset, .unset, .unset, .unset] [(.long (-7997709970472590531 : Int64))])) rfl (hb hby at_39) _ ?_
    show Steps p.tables e below (s₁.setTop (mkF m 42 #[.val (.long p1), .second, .val (.long p2), .second, .val (.long (-7046029254386353131 : Int64)), .second, .val (.long (-7997709970472590531 : Int64)), .second, .unset, .unset, .unset, .unset, .unset, .unset] [(.long (2 : Int64)), (.long (-7997709970472590531 : Int64))])) _
    refine XS.lload X0.here hx rfl (hb hby at_42) rfl ?_
    show Steps p.tables e below (s₁.setTop (mkF m 44 #[.val (.long p1), .second, .val (.long p2), .second, .val (.long (-7046029254386353131 : Int64)), .second, .val (.long (-7997709970472590531 : Int64)), .second, .unset, .unset, .unset, .unset, .unset, .unset] [(.long (-7046029254386353131 : Int64)), (.long (2 : Int64)), (.long (-7997709970472590531 : Int64))])) _
    refine XS.lload X0.here hx rfl (hb hby at_44) rfl ?_
    show Steps p.tables e below (s₁.setTop (mkF m 46 #[.val (.long p1), .second, .val (.long p2), .second, .val (.long (-7046029254386353131 : Int64)), .second, .val (.long (-7997709970472590531 : Int64)), .second, .unset, .unset, .unset, .unset, .unset, .unset] [(.long (-7997709970472590531 : Int64)), (.long (-7046029254386353131 : Int64)), (.long (2 : Int64)), (.long (-7997709970472590531 : Int64))])) _
    refine XS.lmul X0.here hx rfl (hb hby at_46) rfl ?_
    show Steps p.tables e below (s₁.setTop (mkF m 47 #[.val (.long p1), .second, .val (.long p2), .second, .val (.long (-7046029254386353131 : Int64)), .second, .val (.long (-7997709970472590531 : Int64)), .second, .unset, .unset, .unset, .unset, .unset, .unset] [(.long ((-7046029254386353131 : Int64) * (-7997709970472590531 : Int64))), (.long (2 : Int64)), (.long (-7997709970472590531 : Int64))])) _
    rw [fold7]
    show Steps p.tables e below (s₁.setTop (mkF m 47 #[.val (.long p1), .second, .val (.long p2), .second, .val (.long (-7046029254386353131 : Int64)), .second, .val (.long (-7997709970472590531 : Int64)), .second, .unset, .unset, .unset, .unset, .unset, .unset] [(.long (-8194862502375985151 : Int64)), (.long (2 : Int64)), (.long (-7997709970472590531 : Int64))])) _
    refine XS.lsub X0.here hx rfl (hb hby at_47) rfl ?_
    show Steps p.tables e below (s₁.setTop (mkF m 48 #[.val (.long p1), .second, .val (.long p2), .second, .val (.long (-7046029254386353131 : Int64)), .second, .val (.long (-7997709970472590531 : Int64)), .second, .unset, .unset, .unset, .unset, .unset, .unset] [(.long ((2 : Int64) - (-8194862502375985151 : Int64))), (.long (-7997709970472590531 : Int64))])) _
    rw [fold8]
    show Steps p.tables e below (s₁.setTop (mkF m 48 #[.val (.long p1), .second, .val (.long p2), .second, .val (.long (-7046029254386353131 : Int64)), .second, .val (.long (-7997709970472590531 : Int64)), .second, .unset, .unset, .unset, .unset, .unset, .unset] [(.long (8194862502375985153 : Int64)), (.long (-7997709970472590531 : Int64))])) _
    refine XS.lmul X0.here hx rfl (hb hby at_48) rfl ?_
    show Steps p.tables e below (s₁.setTop (mkF m 49 #[.val (.long p1), .second, .val (.long p2), .second, .val (.long (-7046029254386353131 : Int64)), .second, .val (.long (-7997709970472590531 : Int64)), .second, .unset, .unset, .unset, .unset, .unset, .unset] [(.long ((-7997709970472590531 : Int64) * (8194862502375985153 : Int64)))])) _
    rw [fold9]
    show Steps p.tables e below (s₁.setTop (mkF m 49 #[.val (.long p1), .second, .val (.long p2), .second, .val (.long (-7046029254386353131 : Int64)), .second, .val (.long (-7997709970472590531 : Int64)), .second, .unset, .unset, .unset, .unset, .unset, .unset] [(.long (-3854543043844148419 : Int64))])) _
    refine XS.lstore X0.here hx rfl (hb hby at_49) rfl (l' := #[.val (.long p1), .second, .val (.long p2), .second, .val (.long (-7046029254386353131 : Int64)), .second, .val (.long (-3854543043844148419 : Int64)), .second, .unset, .unset, .unset, .unset, .unset, .unset]) rfl ?_
    show Steps p.tables e below (s₁.setTop (mkF m 51 #[.val (.long p1), .second, .val (.long p2), .second, .val (.long (-7046029254386353131 : Int64)), .second, .val (.long (-3854543043844148419 : Int64)), .second, .unset, .unset, .unset, .unset, .unset, .unset] [])) _
    refine XS.lload X0.here hx rfl (hb hby at_51) rfl ?_
    show Steps p.tables e below (s₁.setTop (mkF m 53 #[.val (.long p1), .second, .val (.long p2), .second, .val (.long (-7046029254386353131 : Int64)), .second, .val (.long (-3854543043844148419 : Int64)), .second, .unset, .unset, .unset, .unset, .unset, .unset] [(.long (-3854543043844148419 : Int64))])) _
    refine X0.ldc2Long hx hown (mvT hZ (hw _ (List.mem_of_getElem? (i := 1) rfl))) (g := (mkF m 53 #[.val (.long p1), .second, .val (.long p2), .second, .val (.long (-7046029254386353131 : Int64)), .second, .val (.long (-3854543043844148419 : Int64)), .second, .unset, .unset, .unset, .unset, .unset, .unset] [(.long (-3854543043844148419 : Int64))])) rfl (hb hby at_53) _ ?_
    show Steps p.tables e below (s₁.setTop (mkF m 56 #[.val (.long p1), .second, .val (.long p2), .second, .val (.long (-7046029254386353131 : Int64)), .second, .val (.long (-3854543043844148419 : Int64)), .second, .unset, .unset, .unset, .unset, .unset, .unset] [(.long (2 : Int64)), (.long (-3854543043844148419 : Int64))])) _
    refine XS.lload X0.here hx rfl (hb hby at_56) rfl ?_
    show Steps p.tables e below (s₁.setTop (mkF m 58 #[.val (.long p1), .second, .val (.long p2), .second, .val (.long (-7046029254386353131 : Int64)), .second, .val (.long (-3854543043844148419 : Int64)), .second, .unset, .unset, .unset, .unset, .unset, .unset] [(.long (-7046029254386353131 : Int64)), (.long (2 : Int64)), (.long (-3854543043844148419 : Int64))])) _
    refine XS.lload X0.here hx rfl (hb hby at_58) rfl ?_
    show Steps p.tables e below (s₁.setTop (mkF m 60 #[.val (.long p1), .second, .val (.long p2), .second, .val (.long (-7046029254386353131 : Int64)), .second, .val (.long (-3854543043844148419 : Int64)), .second, .unset, .unset, .unset, .unset, .unset, .unset] [(.long (-3854543043844148419 : Int64)), (.long (-7046029254386353131 : Int64)), (.long (2 : Int64)), (.long (-3854543043844148419 : Int64))])) _
    refine XS.lmul X0.here hx rfl (hb hby at_60) rfl ?_
    show Steps p.tables e below (s₁.setTop (mkF m 61 #[.val (.long p1), .second, .val (.long p2), .second, .val (.long (-7046029254386353131 : Int64)), .second, .val (.long (-3854543043844148419 : Int64)), .second, .unset, .unset, .unset, .unset, .unset, .unset] [(.long ((-7046029254386353131 : Int64) * (-3854543043844148419 : Int64))), (.long (2 : Int64)), (.long (-3854543043844148419 : Int64))])) _
    rw [fold10]
    show Steps p.tables e below (s₁.setTop (mkF m 61 #[.val (.long p1), .second, .val (.long p2), .second, .val (.long (-7046029254386353131 : Int64)), .second, .val (.long (-3854543043844148419 : Int64)), .second, .unset, .unset, .unset, .unset, .unset, .unset] [(.long (-7769303150418198527 : Int64)), (.long (2 : Int64)), (.long (-3854543043844148419 : Int64))])) _
    refine XS.lsub X0.here hx rfl (hb hby at_61) rfl ?_
    show Steps p.tables e below (s₁.setTop (mkF m 62 #[.val (.long p1), .second, .val (.long p2), .second, .val (.long (-7046029254386353131 : Int64)), .second, .val (.long (-3854543043844148419 : Int64)), .second, .unset, .unset, .unset, .unset, .unset, .unset] [(.long ((2 : Int64) - (-7769303150418198527 : Int64))), (.long (-3854543043844148419 : Int64))])) _
    rw [fold11]
    show Steps p.tables e below (s₁.setTop (mkF m 62 #[.val (.long p1), .second, .val (.long p2), .second, .val (.long (-7046029254386353131 : Int64)), .second, .val (.long (-3854543043844148419 : Int64)), .second, .unset, .unset, .unset, .unset, .unset, .unset] [(.long (7769303150418198529 : Int64)), (.long (-3854543043844148419 : Int64))])) _
    refine XS.lmul X0.here hx rfl (hb hby at_62) rfl ?_
    show Steps p.tables e below (s₁.setTop (mkF m 63 #[.val (.long p1), .second, .val (.long p2), .second, .val (.long (-7046029254386353131 : Int64)), .second, .val (.long (-3854543043844148419 : Int64)), .second, .unset, .unset, .unset, .unset, .unset, .unset] [(.long ((-3854543043844148419 : Int64) * (7769303150418198529 : Int64)))])) _
    rw [fold12]
    show Steps p.tables e below (s₁.setTop (mkF m 63 #[.val (.long p1), .second, .val (.long p2), .second, .val (.long (-7046029254386353131 : Int64)), .second, .val (.long (-3854543043844148419 : Int64)), .second, .unset, .unset, .unset, .unset, .unset, .unset] [(.long (6782847518758105917 : Int64))])) _
    refine XS.lstore X0.here hx rfl (hb hby at_63) rfl (l' := #[.val (.long p1), .second, .val (.long p2), .second, .val (.long (-7046029254386353131 : Int64)), .second, .val (.long (6782847518758105917 : Int64)), .second, .unset, .unset, .unset, .unset, .unset, .unset]) rfl ?_
    show Steps p.tables e below (s₁.setTop (mkF m 65 #[.val (.long p1), .second, .val (.long p2), .second, .val (.long (-7046029254386353131 : Int64)), .second, .val (.long (6782847518758105917 : Int64)), .second, .unset, .unset, .unset, .unset, .unset, .unset] [])) _
    refine XS.lload X0.here hx rfl (hb hby at_65) rfl ?_
    show Steps p.tables e below (s₁.setTop (mkF m 67 #[.val (.long p1), .second, .val (.long p2), .second, .val (.long (-7046029254386353131 : Int64)), .second, .val (.long (6782847518758105917 : Int64)), .second, .unset, .unset, .unset, .unset, .unset, .unset] [(.long (6782847518758105917 : Int64))])) _
    refine X0.ldc2Long hx hown (mvT hZ (hw _ (List.mem_of_getElem? (i := 1) rfl))) (g := (mkF m 67 #[.val (.long p1), .second, .val (.long p2), .second, .val (.long (-7046029254386353131 : Int64)), .second, .val (.long (6782847518758105917 : Int64)), .second, .unset, .unset, .unset, .unset, .unset, .unset] [(.long (6782847518758105917 : Int64))])) rfl (hb hby at_67) _ ?_
    show Steps p.tables e below (s₁.setTop (mkF m 70 #[.val (.long p1), .second, .val (.long p2), .second, .val (.long (-7046029254386353131 : Int64)), .second, .val (.long (6782847518758105917 : Int64)), .second, .unset, .unset, .unset, .unset, .unset, .unset] [(.long (2 : Int64)), (.long (6782847518758105917 : Int64))])) _
    refine XS.lload X0.here hx rfl (hb hby at_70) rfl ?_
    show Steps p.tables e below (s₁.setTop (mkF m 72 #[.val (.long p1), .second, .val (.long p2), .second, .val (.long (-7046029254386353131 : Int64)), .second, .val (.long (6782847518758105917 : Int64)), .second, .unset, .unset, .unset, .unset, .unset, .unset] [(.long (-7046029254386353131 : Int64)), (.long (2 : Int64)), (.long (6782847518758105917 : Int64))])) _
    refine XS.lload X0.here hx rfl (hb hby at_72) rfl ?_
    show Steps p.tables e below (s₁.setTop (mkF m 74 #[.val (.long p1), .second, .val (.long p2), .second, .val (.long (-7046029254386353131 : Int64)), .second, .val (.long (6782847518758105917 : Int64)), .second, .unset, .unset, .unset, .unset, .unset, .unset] [(.long (6782847518758105917 : Int64)), (.long (-7046029254386353131 : Int64)), (.long (2 : Int64)), (.long (6782847518758105917 : Int64))])) _
    refine XS.lmul X0.here hx rfl (hb hby at_74) rfl ?_
    show Steps p.tables e below (s₁.setTop (mkF m 75 #[.val (.long p1), .second, .val (.long p2), .second, .val (.long (-7046029254386353131 : Int64)), .second, .val (.long (6782847518758105917 : Int64)), .second, .unset, .unset, .unset, .unset, .unset, .unset] [(.long ((-7046029254386353131 : Int64) * (6782847518758105917 : Int64))), (.long (2 : Int64)), (.long (6782847518758105917 : Int64))])) _
    rw [fold13]
    show Steps p.tables e below (s₁.setTop (mkF m 75 #[.val (.long p1), .second, .val (.long p2), .second, .val (.long (-7046029254386353131 : Int64)), .second, .val (.long (6782847518758105917 : Int64)), .second, .unset, .unset, .unset, .unset, .unset, .unset] [(.long (6160642815266127873 : Int64)), (.long (2 : Int64)), (.long (6782847518758105917 : Int64))])) _
    refine XS.lsub X0.here hx rfl (hb hby at_75) rfl ?_
    show Steps p.tables e below (s₁.setTop (mkF m 76 #[.val (.long p1), .second, .val (.long p2), .second, .val (.long (-7046029254386353131 : Int64)), .second, .val (.long (6782847518758105917 : Int64)), .second, .unset, .unset, .unset, .unset, .unset, .unset] [(.long ((2 : Int64) - (6160642815266127873 : Int64))), (.long (6782847518758105917 : Int64))])) _
    rw [fold14]
    show Steps p.tables e below (s₁.setTop (mkF m 76 #[.val (.long p1), .second, .val (.long p2), .second, .val (.long (-7046029254386353131 : Int64)), .second, .val (.long (6782847518758105917 : Int64)), .second, .unset, .unset, .unset, .unset, .unset, .unset] [(.long (-6160642815266127871 : Int64)), (.long (6782847518758105917 : Int64))])) _
    refine XS.lmul X0.here hx rfl (hb hby at_76) rfl ?_
    show Steps p.tables e below (s₁.setTop (mkF m 77 #[.val (.long p1), .second, .val (.long p2), .second, .val (.long (-7046029254386353131 : Int64)), .second, .val (.long (6782847518758105917 : Int64)), .second, .unset, .unset, .unset, .unset, .unset, .unset] [(.long ((6782847518758105917 : Int64) * (-6160642815266127871 : Int64)))])) _
    rw [fold15]
    show Steps p.tables e below (s₁.setTop (mkF m 77 #[.val (.long p1), .second, .val (.long p2), .second, .val (.long (-7046029254386353131 : Int64)), .second, .val (.long (6782847518758105917 : Int64)), .second, .unset, .unset, .unset, .unset, .unset, .unset] [(.long (-1018231460777725123 : Int64))])) _
    refine XS.lstore X0.here hx rfl (hb hby at_77) rfl (l' := #[.val (.long p1), .second, .val (.long p2), .second, .val (.long (-7046029254386353131 : Int64)), .second, .val (.long (-1018231460777725123 : Int64)), .second, .unset, .unset, .unset, .unset, .unset, .unset]) rfl ?_
    show Steps p.tables e below (s₁.setTop (mkF m 79 #[.val (.long p1), .second, .val (.long p2), .second, .val (.long (-7046029254386353131 : Int64)), .second, .val (.long (-1018231460777725123 : Int64)), .second, .unset, .unset, .unset, .unset, .unset, .unset] [])) _
    refine XS.lloadN X0.here hx rfl (hb hby at_79) rfl ?_
    show Steps p.tables e below (s₁.setTop (mkF m 80 #[.val (.long p1), .second, .val (.long p2), .second, .val (.long (-7046029254386353131 : Int64)), .second, .val (.long (-1018231460777725123 : Int64)), .second, .unset, .unset, .unset, .unset, .unset, .unset] [(.long p1)])) _
    refine XS.lloadN X0.here hx rfl (hb hby at_80) rfl ?_
    show Steps p.tables e below (s₁.setTop (mkF m 81 #[.val (.long p1), .second, .val (.long p2), .second, .val (.long (-7046029254386353131 : Int64)), .second, .val (.long (-1018231460777725123 : Int64)), .second, .unset, .unset, .unset, .unset, .unset, .unset] [(.long p2), (.long p1)])) _
    refine st16 _ ?_
    show Steps p.tables e below (T16.setTop (mkF m 84 #[.val (.long p1), .second, .val (.long p2), .second, .val (.long (-7046029254386353131 : Int64)), .second, .val (.long (-1018231460777725123 : Int64)), .second, .unset, .unset, .unset, .unset, .unset, .unset] [(.long (own_fold p1 p2))])) _
    refine XS.lstore X16.here hx rfl (hb hby at_84) rfl (l' := #[.val (.long p1), .second, .val (.long p2), .second, .val (.long (-7046029254386353131 : Int64)), .second, .val (.long (-1018231460777725123 : Int64)), .second, .val (.long (own_fold p1 p2)), .second, .unset, .unset, .unset, .unset]) rfl ?_
    show Steps p.tables e below (T16.setTop (mkF m 86 #[.val (.long p1), .second, .val (.long p2), .second, .val (.long (-7046029254386353131 : Int64)), .second, .val (.long (-1018231460777725123 : Int64)), .second, .val (.long (own_fold p1 p2)), .second, .unset, .unset, .unset, .unset] [])) _
    refine XS.lload X16.here hx rfl (hb hby at_86) rfl ?_
    show Steps p.tables e below (T16.setTop (mkF m 88 #[.val (.long p1), .second, .val (.long p2), .second, .val (.long (-7046029254386353131 : Int64)), .second, .val (.long (-1018231460777725123 : Int64)), .second, .val (.long (own_fold p1 p2)), .second, .unset, .unset, .unset, .unset] [(.long (own_fold p1 p2))])) _
    refine XS.lload X16.here hx rfl (hb hby at_88) rfl ?_
    show Steps p.tables e below (T16.setTop (mkF m 90 #[.val (.long p1), .second, .val (.long p2), .second, .val (.long (-7046029254386353131 : Int64)), .second, .val (.long (-1018231460777725123 : Int64)), .second, .val (.long (own_fold p1 p2)), .second, .unset, .unset, .unset, .unset] [(.long (own_fold p1 p2)), (.long (own_fold p1 p2))])) _
    refine XS.bipush X16.here hx rfl (hb hby at_90) ?_
    show Steps p.tables e below (T16.setTop (mkF m 92 #[.val (.long p1), .second, .val (.long p2), .second, .val (.long (-7046029254386353131 : Int64)), .second, .val (.long (-1018231460777725123 : Int64)), .second, .val (.long (own_fold p1 p2)), .second, .unset, .unset, .unset, .unset] [(.int (31 : Int32)), (.long (own_fold p1 p2)), (.long (own_fold p1 p2))])) _
    refine XS.lushr X16.here hx rfl (hb hby at_92) rfl ?_
    show Steps p.tables e below (T16.setTop (mkF m 93 #[.val (.long p1), .second, .val (.long p2), .second, .val (.long (-7046029254386353131 : Int64)), .second, .val (.long (-1018231460777725123 : Int64)), .second, .val (.long (own_fold p1 p2)), .second, .unset, .unset, .unset, .unset] [(.long (((own_fold p1 p2).toUInt64 >>> ((31 : Int32) &&& 0x3f).toInt64.toUInt64).toInt64)), (.long (own_fold p1 p2))])) _
    refine XS.lxor X16.here hx rfl (hb hby at_93) rfl ?_
    show Steps p.tables e below (T16.setTop (mkF m 94 #[.val (.long p1), .second, .val (.long p2), .second, .val (.long (-7046029254386353131 : Int64)), .second, .val (.long (-1018231460777725123 : Int64)), .second, .val (.long (own_fold p1 p2)), .second, .unset, .unset, .unset, .unset] [(.long ((own_fold p1 p2) ^^^ (((own_fold p1 p2).toUInt64 >>> ((31 : Int32) &&& 0x3f).toInt64.toUInt64).toInt64)))])) _
    refine XS.lload X16.here hx rfl (hb hby at_94) rfl ?_
    show Steps p.tables e below (T16.setTop (mkF m 96 #[.val (.long p1), .second, .val (.long p2), .second, .val (.long (-7046029254386353131 : Int64)), .second, .val (.long (-1018231460777725123 : Int64)), .second, .val (.long (own_fold p1 p2)), .second, .unset, .unset, .unset, .unset] [(.long (own_fold p1 p2)), (.long ((own_fold p1 p2) ^^^ (((own_fold p1 p2).toUInt64 >>> ((31 : Int32) &&& 0x3f).toInt64.toUInt64).toInt64)))])) _
    refine XS.bipush X16.here hx rfl (hb hby at_96) ?_
    show Steps p.tables e below (T16.setTop (mkF m 98 #[.val (.long p1), .second, .val (.long p2), .second, .val (.long (-7046029254386353131 : Int64)), .second, .val (.long (-1018231460777725123 : Int64)), .second, .val (.long (own_fold p1 p2)), .second, .unset, .unset, .unset, .unset] [(.int (62 : Int32)), (.long (own_fold p1 p2)), (.long ((own_fold p1 p2) ^^^ (((own_fold p1 p2).toUInt64 >>> ((31 : Int32) &&& 0x3f).toInt64.toUInt64).toInt64)))])) _
    refine XS.lushr X16.here hx rfl (hb hby at_98) rfl ?_
    show Steps p.tables e below (T16.setTop (mkF m 99 #[.val (.long p1), .second, .val (.long p2), .second, .val (.long (-7046029254386353131 : Int64)), .second, .val (.long (-1018231460777725123 : Int64)), .second, .val (.long (own_fold p1 p2)), .second, .unset, .unset, .unset, .unset] [(.long (((own_fold p1 p2).toUInt64 >>> ((62 : Int32) &&& 0x3f).toInt64.toUInt64).toInt64)), (.long ((own_fold p1 p2) ^^^ (((own_fold p1 p2).toUInt64 >>> ((31 : Int32) &&& 0x3f).toInt64.toUInt64).toInt64)))])) _
    refine XS.lxor X16.here hx rfl (hb hby at_99) rfl ?_
    exact k)
  rw [hy] at pre17
  have fold18 : ((-7046029254386353131 : Int64) * (-1018231460777725123 : Int64)) = (1 : Int64) := by decide +kernel
  have hi : ((-7046029254386353131 : Int64) * (-1018231460777725123 : Int64)) = 1 := by decide +kernel
  have pre19 : ∀ t, Steps p.tables e below (T16.setTop (mkF m 133 #[.val (.long p1), .second, .val (.long p2), .second, .val (.long (-7046029254386353131 : Int64)), .second, .val (.long (-1018231460777725123 : Int64)), .second, .val (.long (own_fold p1 p2)), .second, .val (.long ((p1 ^^^ p2) * (-7046029254386353131 : Int64))), .second, .val (.long (((p1 ^^^ p2) * (-7046029254386353131 : Int64)) * (-1018231460777725123 : Int64))), .second] [(.int (1 : Int32))])) t → Steps p.tables e below (s₁.setTop (entryFrame m #[(.long p1), (.long p2)] maxLocals)) t := fun t k => pre17 t (by
    show Steps p.tables e below (T16.setTop (mkF m 100 #[.val (.long p1), .second, .val (.long p2), .second, .val (.long (-7046029254386353131 : Int64)), .second, .val (.long (-1018231460777725123 : Int64)), .second, .val (.long (own_fold p1 p2)), .second, .unset, .unset, .unset, .unset] [(.long ((p1 ^^^ p2) * (-7046029254386353131 : Int64)))])) _
    refine XS.lstore X16.here hx rfl (hb hby at_100) rfl (l' := #[.val (.long p1), .second, .val (.long p2), .second, .val (.long (-7046029254386353131 : Int64)), .second, .val (.long (-1018231460777725123 : Int64)), .second, .val (.long (own_fold p1 p2)), .second, .val (.long ((p1 ^^^ p2) * (-7046029254386353131 : Int64))), .second, .unset, .unset]) rfl ?_
    show Steps p.tables e below (T16.setTop (mkF m 102 #[.val (.long p1), .second, .val (.long p2), .second, .val (.long (-7046029254386353131 : Int64)), .second, .val (.long (-1018231460777725123 : Int64)), .second, .val (.long (own_fold p1 p2)), .second, .val (.long ((p1 ^^^ p2) * (-7046029254386353131 : Int64))), .second, .unset, .unset] [])) _
    refine XS.lload X16.here hx rfl (hb hby at_102) rfl ?_
    show Steps p.tables e below (T16.setTop (mkF m 104 #[.val (.long p1), .second, .val (.long p2), .second, .val (.long (-7046029254386353131 : Int64)), .second, .val (.long (-1018231460777725123 : Int64)), .second, .val (.long (own_fold p1 p2)), .second, .val (.long ((p1 ^^^ p2) * (-7046029254386353131 : Int64))), .second, .unset, .unset] [(.long ((p1 ^^^ p2) * (-7046029254386353131 : Int64)))])) _
    refine XS.lload X16.here hx rfl (hb hby at_104) rfl ?_
    show Steps p.tables e below (T16.setTop (mkF m 106 #[.val (.long p1), .second, .val (.long p2), .second, .val (.long (-7046029254386353131 : Int64)), .second, .val (.long (-1018231460777725123 : Int64)), .second, .val (.long (own_fold p1 p2)), .second, .val (.long ((p1 ^^^ p2) * (-7046029254386353131 : Int64))), .second, .unset, .unset] [(.long (-1018231460777725123 : Int64)), (.long ((p1 ^^^ p2) * (-7046029254386353131 : Int64)))])) _
    refine XS.lmul X16.here hx rfl (hb hby at_106) rfl ?_
    show Steps p.tables e below (T16.setTop (mkF m 107 #[.val (.long p1), .second, .val (.long p2), .second, .val (.long (-7046029254386353131 : Int64)), .second, .val (.long (-1018231460777725123 : Int64)), .second, .val (.long (own_fold p1 p2)), .second, .val (.long ((p1 ^^^ p2) * (-7046029254386353131 : Int64))), .second, .unset, .unset] [(.long (((p1 ^^^ p2) * (-7046029254386353131 : Int64)) * (-1018231460777725123 : Int64)))])) _
    refine XS.lstore X16.here hx rfl (hb hby at_107) rfl (l' := #[.val (.long p1), .second, .val (.long p2), .second, .val (.long (-7046029254386353131 : Int64)), .second, .val (.long (-1018231460777725123 : Int64)), .second, .val (.long (own_fold p1 p2)), .second, .val (.long ((p1 ^^^ p2) * (-7046029254386353131 : Int64))), .second, .val (.long (((p1 ^^^ p2) * (-7046029254386353131 : Int64)) * (-1018231460777725123 : Int64))), .second]) rfl ?_
    show Steps p.tables e below (T16.setTop (mkF m 109 #[.val (.long p1), .second, .val (.long p2), .second, .val (.long (-7046029254386353131 : Int64)), .second, .val (.long (-1018231460777725123 : Int64)), .second, .val (.long (own_fold p1 p2)), .second, .val (.long ((p1 ^^^ p2) * (-7046029254386353131 : Int64))), .second, .val (.long (((p1 ^^^ p2) * (-7046029254386353131 : Int64)) * (-1018231460777725123 : Int64))), .second] [])) _
    refine XS.lload X16.here hx rfl (hb hby at_109) rfl ?_
    show Steps p.tables e below (T16.setTop (mkF m 111 #[.val (.long p1), .second, .val (.long p2), .second, .val (.long (-7046029254386353131 : Int64)), .second, .val (.long (-1018231460777725123 : Int64)), .second, .val (.long (own_fold p1 p2)), .second, .val (.long ((p1 ^^^ p2) * (-7046029254386353131 : Int64))), .second, .val (.long (((p1 ^^^ p2) * (-7046029254386353131 : Int64)) * (-1018231460777725123 : Int64))), .second] [(.long (-7046029254386353131 : Int64))])) _
    refine XS.lload X16.here hx rfl (hb hby at_111) rfl ?_
    show Steps p.tables e below (T16.setTop (mkF m 113 #[.val (.long p1), .second, .val (.long p2), .second, .val (.long (-7046029254386353131 : Int64)), .second, .val (.long (-1018231460777725123 : Int64)), .second, .val (.long (own_fold p1 p2)), .second, .val (.long ((p1 ^^^ p2) * (-7046029254386353131 : Int64))), .second, .val (.long (((p1 ^^^ p2) * (-7046029254386353131 : Int64)) * (-1018231460777725123 : Int64))), .second] [(.long (-1018231460777725123 : Int64)), (.long (-7046029254386353131 : Int64))])) _
    refine XS.lmul X16.here hx rfl (hb hby at_113) rfl ?_
    show Steps p.tables e below (T16.setTop (mkF m 114 #[.val (.long p1), .second, .val (.long p2), .second, .val (.long (-7046029254386353131 : Int64)), .second, .val (.long (-1018231460777725123 : Int64)), .second, .val (.long (own_fold p1 p2)), .second, .val (.long ((p1 ^^^ p2) * (-7046029254386353131 : Int64))), .second, .val (.long (((p1 ^^^ p2) * (-7046029254386353131 : Int64)) * (-1018231460777725123 : Int64))), .second] [(.long ((-7046029254386353131 : Int64) * (-1018231460777725123 : Int64)))])) _
    rw [fold18]
    show Steps p.tables e below (T16.setTop (mkF m 114 #[.val (.long p1), .second, .val (.long p2), .second, .val (.long (-7046029254386353131 : Int64)), .second, .val (.long (-1018231460777725123 : Int64)), .second, .val (.long (own_fold p1 p2)), .second, .val (.long ((p1 ^^^ p2) * (-7046029254386353131 : Int64))), .second, .val (.long (((p1 ^^^ p2) * (-7046029254386353131 : Int64)) * (-1018231460777725123 : Int64))), .second] [(.long (1 : Int64))])) _
    refine XS.lconst X16.here hx rfl (hb hby at_114) ?_
    show Steps p.tables e below (T16.setTop (mkF m 115 #[.val (.long p1), .second, .val (.long p2), .second, .val (.long (-7046029254386353131 : Int64)), .second, .val (.long (-1018231460777725123 : Int64)), .second, .val (.long (own_fold p1 p2)), .second, .val (.long ((p1 ^^^ p2) * (-7046029254386353131 : Int64))), .second, .val (.long (((p1 ^^^ p2) * (-7046029254386353131 : Int64)) * (-1018231460777725123 : Int64))), .second] [(.long (1 : Int64)), (.long (1 : Int64))])) _
    refine XS.lcmp X16.here hx rfl (hb hby at_115) rfl ?_
    show Steps p.tables e below (T16.setTop (mkF m 116 #[.val (.long p1), .second, .val (.long p2), .second, .val (.long (-7046029254386353131 : Int64)), .second, .val (.long (-1018231460777725123 : Int64)), .second, .val (.long (own_fold p1 p2)), .second, .val (.long ((p1 ^^^ p2) * (-7046029254386353131 : Int64))), .second, .val (.long (((p1 ^^^ p2) * (-7046029254386353131 : Int64)) * (-1018231460777725123 : Int64))), .second] [(.int (lcmpW (1 : Int64) (1 : Int64)))])) _
    refine XS.ifNo X16.here hx rfl (hb hby at_116) rfl ((if0 _ _).trans (teq ((by decide) : (lcmpW (1 : Int64) (1 : Int64)) = (0 : Int32))).2) ?_
    show Steps p.tables e below (T16.setTop (mkF m 119 #[.val (.long p1), .second, .val (.long p2), .second, .val (.long (-7046029254386353131 : Int64)), .second, .val (.long (-1018231460777725123 : Int64)), .second, .val (.long (own_fold p1 p2)), .second, .val (.long ((p1 ^^^ p2) * (-7046029254386353131 : Int64))), .second, .val (.long (((p1 ^^^ p2) * (-7046029254386353131 : Int64)) * (-1018231460777725123 : Int64))), .second] [])) _
    refine XS.lload X16.here hx rfl (hb hby at_119) rfl ?_
    show Steps p.tables e below (T16.setTop (mkF m 121 #[.val (.long p1), .second, .val (.long p2), .second, .val (.long (-7046029254386353131 : Int64)), .second, .val (.long (-1018231460777725123 : Int64)), .second, .val (.long (own_fold p1 p2)), .second, .val (.long ((p1 ^^^ p2) * (-7046029254386353131 : Int64))), .second, .val (.long (((p1 ^^^ p2) * (-7046029254386353131 : Int64)) * (-1018231460777725123 : Int64))), .second] [(.long (((p1 ^^^ p2) * (-7046029254386353131 : Int64)) * (-1018231460777725123 : Int64)))])) _
    refine XS.lloadN X16.here hx rfl (hb hby at_121) rfl ?_
    show Steps p.tables e below (T16.setTop (mkF m 122 #[.val (.long p1), .second, .val (.long p2), .second, .val (.long (-7046029254386353131 : Int64)), .second, .val (.long (-1018231460777725123 : Int64)), .second, .val (.long (own_fold p1 p2)), .second, .val (.long ((p1 ^^^ p2) * (-7046029254386353131 : Int64))), .second, .val (.long (((p1 ^^^ p2) * (-7046029254386353131 : Int64)) * (-1018231460777725123 : Int64))), .second] [(.long p1), (.long (((p1 ^^^ p2) * (-7046029254386353131 : Int64)) * (-1018231460777725123 : Int64)))])) _
    refine XS.lloadN X16.here hx rfl (hb hby at_122) rfl ?_
    show Steps p.tables e below (T16.setTop (mkF m 123 #[.val (.long p1), .second, .val (.long p2), .second, .val (.long (-7046029254386353131 : Int64)), .second, .val (.long (-1018231460777725123 : Int64)), .second, .val (.long (own_fold p1 p2)), .second, .val (.long ((p1 ^^^ p2) * (-7046029254386353131 : Int64))), .second, .val (.long (((p1 ^^^ p2) * (-7046029254386353131 : Int64)) * (-1018231460777725123 : Int64))), .second] [(.long p2), (.long p1), (.long (((p1 ^^^ p2) * (-7046029254386353131 : Int64)) * (-1018231460777725123 : Int64)))])) _
    refine XS.lxor X16.here hx rfl (hb hby at_123) rfl ?_
    show Steps p.tables e below (T16.setTop (mkF m 124 #[.val (.long p1), .second, .val (.long p2), .second, .val (.long (-7046029254386353131 : Int64)), .second, .val (.long (-1018231460777725123 : Int64)), .second, .val (.long (own_fold p1 p2)), .second, .val (.long ((p1 ^^^ p2) * (-7046029254386353131 : Int64))), .second, .val (.long (((p1 ^^^ p2) * (-7046029254386353131 : Int64)) * (-1018231460777725123 : Int64))), .second] [(.long (p1 ^^^ p2)), (.long (((p1 ^^^ p2) * (-7046029254386353131 : Int64)) * (-1018231460777725123 : Int64)))])) _
    refine XS.lcmp X16.here hx rfl (hb hby at_124) rfl ?_
    show Steps p.tables e below (T16.setTop (mkF m 125 #[.val (.long p1), .second, .val (.long p2), .second, .val (.long (-7046029254386353131 : Int64)), .second, .val (.long (-1018231460777725123 : Int64)), .second, .val (.long (own_fold p1 p2)), .second, .val (.long ((p1 ^^^ p2) * (-7046029254386353131 : Int64))), .second, .val (.long (((p1 ^^^ p2) * (-7046029254386353131 : Int64)) * (-1018231460777725123 : Int64))), .second] [(.int (lcmpW (((p1 ^^^ p2) * (-7046029254386353131 : Int64)) * (-1018231460777725123 : Int64)) (p1 ^^^ p2)))])) _
    refine XS.ifNo X16.here hx rfl (hb hby at_125) rfl ((if0 _ _).trans (teq ((own_lc0 (by rw [Int64.mul_assoc, hi, Int64.mul_one])) : (lcmpW (((p1 ^^^ p2) * (-7046029254386353131 : Int64)) * (-1018231460777725123 : Int64)) (p1 ^^^ p2)) = (0 : Int32))).2) ?_
    show Steps p.tables e below (T16.setTop (mkF m 128 #[.val (.long p1), .second, .val (.long p2), .second, .val (.long (-7046029254386353131 : Int64)), .second, .val (.long (-1018231460777725123 : Int64)), .second, .val (.long (own_fold p1 p2)), .second, .val (.long ((p1 ^^^ p2) * (-7046029254386353131 : Int64))), .second, .val (.long (((p1 ^^^ p2) * (-7046029254386353131 : Int64)) * (-1018231460777725123 : Int64))), .second] [])) _
    refine XS.iconst X16.here hx rfl (hb hby at_128) ?_
    show Steps p.tables e below (T16.setTop (mkF m 129 #[.val (.long p1), .second, .val (.long p2), .second, .val (.long (-7046029254386353131 : Int64)), .second, .val (.long (-1018231460777725123 : Int64)), .second, .val (.long (own_fold p1 p2)), .second, .val (.long ((p1 ^^^ p2) * (-7046029254386353131 : Int64))), .second, .val (.long (((p1 ^^^ p2) * (-7046029254386353131 : Int64)) * (-1018231460777725123 : Int64))), .second] [(.int (1 : Int32))])) _
    refine XS.goto X16.here hx rfl (pc0 := 129) (pc' := 133) rfl (hb hby at_129) (by decide) (by decide) ?_
    exact k)
  obtain ⟨fs, hr, hrun, hended, hW, hsame⟩ := X16.leave (v := some (.int (nar .boolean (1 : Int32)))) (fun h => by rw [Bd.returns] at h; cases h)
  refine ⟨_, _, pre19 _ ?_, hrun, hended, _, _, rfl, ?_, ⟨_, rfl⟩, hW, hsame.mono (by decide) (by decide)⟩
  · show Steps p.tables e below (T16.setTop (mkF m 133 #[.val (.long p1), .second, .val (.long p2), .second, .val (.long (-7046029254386353131 : Int64)), .second, .val (.long (-1018231460777725123 : Int64)), .second, .val (.long (own_fold p1 p2)), .second, .val (.long ((p1 ^^^ p2) * (-7046029254386353131 : Int64))), .second, .val (.long (((p1 ^^^ p2) * (-7046029254386353131 : Int64)) * (-1018231460777725123 : Int64))), .second] [(.int (1 : Int32))])) _
    exact retN X16 hx (t := .boolean) Bd.returns (by simp) (hb hby at_133) hr
  · show QL n0 _ T16.heap _
    rw [e16]
    exact ⟨rfl, N16⟩
set_option maxRecDepth 65536 in
set_option maxHeartbeats 40000000 in
theorem comes_1 {Post : Tables → Env → Array Value → State → Outcome → State → Prop} (hpost : ∀ tb e args s v u, (limb_1_1.after args s (.returned v) u = true ∧ limb_1_2.after args s (.returned v) u = true ∧ True) → FrameEnd s (.returned v) u (Jvm.fieldLocs frame_1_writes args s ++ Jvm.arrayLocs frame_1_arrays args s ++ Jvm.staticLocs frame_1_statics s) 0 0 → Post tb e args s (.returned v) u) :
    ArmFor flags0 classFile x code maxLocals ret World_1 tables_1 room_1 Calls_1 rest_1 Pre_1 Post := by
  intro l hfl _ _ p e ha hc hk s m args below hf hA hF happ hP
  obtain ⟨hcalls, hrest, hpre⟩ := hP
  obtain ⟨-, -, -, hnamed, -, -, -, hat⟩ := (Spec.applies_iff hf).mp happ
  obtain ⟨hg, hn⟩ := and_e (Cond.before_iff.mp (show (Jvm.Cond.and given_1 narrow_1).before args s = true from hpre))
  obtain ⟨gc, gr0⟩ := and_e hg
  obtain ⟨ga0, gr1⟩ := and_e gr0
  have ga1 := gr1
  obtain ⟨w0, w1, rfl⟩ : ∃ w0 w1 : Value, args = #[w0, w1] := by
    have hs : args.size = 2 := by simpa [Cond.value, given_1] using gc
    obtain ⟨L⟩ := args
    match L, hs with
    | [w0, w1], _ => exact ⟨w0, w1, rfl⟩
  have hw := fun d (hd : d ∈ tables_1) => atoms_spec (ws := Jvm.Cond.code x code maxLocals ret :: tables_1) hat d (List.mem_cons_of_mem _ hd)
  have hfit : Fit s := fun {y c} hc i hi => by
    obtain ⟨ha, rfl⟩ := Array.getElem?_eq_some_iff.mp hc
    have q := List.all_eq_true.mp ((Array.all_eq_true_iff_forall_mem.mp hF) _ (Array.getElem_mem ha)) i (List.mem_range.mpr hi)
    simpa [Array.getElem?_eq_getElem hi] using q
  obtain ⟨i0, ei0⟩ := isL_v ga0
  obtain rfl : w0 = (.long i0) := Option.some.inj ei0
  obtain ⟨i1, ei1⟩ := isL_v ga1
  obtain rfl : w1 = (.long i1) := Option.some.inj ei1
  obtain ⟨n, o, h1, h2, h3, _, L, rfl, ⟨rfl, N⟩, hq⟩ := rm0 l s _ hw tables_1 i0 i1  s.heap s.heap.size (Nat.le_refl _)  p e ha hc hk s m _ below hf ((Spec.applies_iff_loose hf).mp happ).1 ⟨rfl, State.Warmed39.refl s, rfl⟩ trivial
  refine ⟨n, _, h1, h2, h3, hpost _ _ _ _ _ _ ⟨Cond.after_iff.mpr rfl, Cond.after_iff.mpr (eq_i res_at (Term.int_eval (1)) rfl), trivial⟩ ⟨hq.1, hq.2.1, (hq.2.2.sift fun y hy => Or.inr (N y hy)).mono (by decide) (by decide)⟩⟩
theorem main_1_1 : Claimed_1_1 := comes_1 fun _ _ _ _ _ _ h hF => ⟨h.1, hF⟩
theorem main_1_2 : Claimed_1_2 := comes_1 fun _ _ _ _ _ _ h hF => ⟨h.2.1, hF⟩
end Jvm.Pilot.@@N@@
namespace Jvm.Pilot.@@N@@
open Jvm Jvm.ClassFile Sem Op Lib Jvm.Free Jvm.Stand Jvm.Pilot.@@N@@.Jvm.D
/-! MADE BY PROGRAM (witnessworld.py) out of the Statement's table words and the real class files: 9 classes; the members and pool entries that the words name. The judged class is class 1, her method 1. -/
namespace start1
open Jvm.ClassFile
def u (s : String) : CpInfo := .utf8 (stringToUtf16 s)
/-- a pool by its gaps: so many unusable entries, then the entry; so many at the end -/
def gap : Nat → List CpInfo → List CpInfo
  | 0, r => r
  | n + 1, r => .unusable :: gap n r
def poolList (es : List (Nat × CpInfo)) (last : Nat) : List CpInfo := es.foldr (fun e r => gap e.1 (e.2 :: r)) (gap last [])
def pool (es : List (Nat × CpInfo)) (last : Nat) : Array CpInfo := ⟨poolList es last⟩
def fileOf (pool : Array CpInfo) (this : Nat) (attrs : Array Attribute := #[]) (ms : Array MethodInfo := #[]) (fl : Nat := 33) (sup : Nat := 0) (ifs : Array Nat := #[]) (fds : Array FieldInfo := #[]) : ClassFile where
  minorVersion := 0
  majorVersion := 65
  constantPool := pool
  accessFlags := fl
  thisClass := this
  superClass := sup
  interfaces := ifs
  fields := fds
  methods := ms
  attributes := attrs
def plain (name : String) (sup : Option ClassId) : Class where
  name := name
  kind := .ordinary
  loader := none
  accessFlags := 33
  super := sup
  interfaces := #[]
  cf := none
  fields := #[]
  methods := #[]
  instanceTypes := #[]
  staticTypes := #[]
  resolved := #[]
  callSites := []
  init := .initialized
  statics := none
  mirror := none

def pool0 : Array CpInfo := pool [(5, u "<init>"), (0, u "()V"), (1, .class_ 10), (1, u "java/lang/Object")] 113

def k0m0 : Method := { name := "<init>", desc := "()V", sig := { parameters := [], returnType := none }, accessFlags := 1, code := none }
/-- java/lang/Object -/
def k0 : Class := { plain "java/lang/Object" none with
  accessFlags := 33
  interfaces := #[]
  cf := some (fileOf pool0 8 #[] #[{ accessFlags := 1, nameIndex := 5, descriptorIndex := 6, attributes := #[] }] 33 0 #[] #[])
  fields := #[]
  methods := #[k0m0]
  instanceTypes := #[]
  staticTypes := #[]
  resolved := Array.replicate 124 none
  statics := none }

def pool1 : Array CpInfo := pool [(2, .class_ 4), (1, u "java/lang/Object"), (0, u "<init>"), (0, u "()V"), (0, .long 11400714819323198485), (1, .long 2), (1, .methodref 12 13), (0, .class_ 14), (0, .nameAndType 15 16), (0, u "com/example/sameshape/sameshape/diff/Digest"), (0, u "fold"), (0, u "(JJ)J"), (0, .class_ 18), (0, u "com/example/sameshape/sameshape/diff/DigestFoldPinLaw"), (2, u "law"), (0, u "(JJ)Z")] 3

def k1m0 : Method := { name := "<init>", desc := "()V", sig := { parameters := [], returnType := none }, accessFlags := 2, code := none }
def k1c1 : Code := { maxStack := 8, maxLocals := 14, code := code, exceptionTable := #[], attributes := #[] }
def k1m1 : Method := { name := "law", desc := "(JJ)Z", sig := { parameters := [.long, .long], returnType := some .boolean }, accessFlags := 9, code := some k1c1 }
/-- com/example/sameshape/sameshape/diff/DigestFoldPinLaw -/
def k1 : Class := { plain "com/example/sameshape/sameshape/diff/DigestFoldPinLaw" (some 0) with
  accessFlags := 49
  interfaces := #[]
  cf := some (fileOf pool1 17 #[] #[{ accessFlags := 2, nameIndex := 5, descriptorIndex := 6, attributes := #[] }, { accessFlags := 9, nameIndex := 21, descriptorIndex := 22, attributes := #[] }] 49 2 #[] #[])
  fields := #[]
  methods := #[k1m0, k1m1]
  instanceTypes := #[]
  staticTypes := #[]
  resolved := Array.replicate 26 none
  statics := none }

def pool2 : Array CpInfo := pool [(2, .class_ 4), (1, u "java/lang/Object"), (0, u "<init>"), (0, u "()V"), (0, .long 11400714819323198485), (14, .class_ 24), (1, u "com/example/sameshape/sameshape/diff/Digest"), (0, u "fold"), (0, u "(JJ)J")] 7

def k2m0 : Method := { name := "<init>", desc := "()V", sig := { parameters := [], returnType := none }, accessFlags := 2, code := none }
def k2c1 : Code := { maxStack := 5, maxLocals := 6, code := prog_20_method_2_code, exceptionTable := #[], attributes := #[] }
def k2m1 : Method := { name := "fold", desc := "(JJ)J", sig := { parameters := [.long, .long], returnType := some .long }, accessFlags := 9, code := some k2c1 }
/-- com/example/sameshape/sameshape/diff/Digest -/
def k2 : Class := { plain "com/example/sameshape/sameshape/diff/Digest" (some 0) with
  accessFlags := 49
  interfaces := #[]
  cf := some (fileOf pool2 22 #[] #[{ accessFlags := 2, nameIndex := 5, descriptorIndex := 6, attributes := #[] }, { accessFlags := 9, nameIndex := 25, descriptorIndex := 26, attributes := #[] }] 49 2 #[] #[])
  fields := #[]
  methods := #[k2m0, k2m1]
  instanceTypes := #[]
  staticTypes := #[]
  resolved := Array.replicate 34 none
  statics := none }

def pool3 : Array CpInfo := pool [(1, u "java/lang/Cloneable"), (0, .class_ 1), (0, u "java/lang/Object"), (0, .class_ 3)] 3

/-- java/lang/Cloneable -/
def k3 : Class := { plain "java/lang/Cloneable" (some 0) with
  accessFlags := 1537
  interfaces := #[]
  cf := some (fileOf pool3 2 #[] #[] 1537 4 #[] #[])
  fields := #[]
  methods := #[]
  instanceTypes := #[]
  staticTypes := #[]
  resolved := Array.replicate 8 none
  statics := none }

def pool4 : Array CpInfo := pool [(1, u "java/io/Serializable"), (0, .class_ 1), (0, u "java/lang/Object"), (0, .class_ 3)] 3

/-- java/io/Serializable -/
def k4 : Class := { plain "java/io/Serializable" (some 0) with
  accessFlags := 1537
  interfaces := #[]
  cf := some (fileOf pool4 2 #[] #[] 1537 4 #[] #[])
  fields := #[]
  methods := #[]
  instanceTypes := #[]
  staticTypes := #[]
  resolved := Array.replicate 8 none
  statics := none }

/-- the primitive byte -/
def k5 : Class := { plain "byte" none with kind := .primitive 'B', accessFlags := 0x411 }
/-- [B -/
def k6 : Class := { plain "[B" (some 0) with kind := .array 5 .byte, interfaces := #[3, 4], accessFlags := 1041 }

/-- the primitive int -/
def k7 : Class := { plain "int" none with kind := .primitive 'I', accessFlags := 0x411 }
/-- [I -/
def k8 : Class := { plain "[I" (some 0) with kind := .array 7 .int, interfaces := #[3, 4], accessFlags := 1041 }

def heap : Heap := #[]
def classes : Array Class := #[k0, k1, k2, k3, k4, k5, k6, k7, k8]
def interned : List (Array UInt16 × Addr) := []
def slotsUsed : Nat := 0
def theMethod : MethodId := ⟨1, 1⟩
def args0 : Array Value := #[.long 5, .long 7]
def aboutOver (below : List Frame) : State where
  vm := { classes := classes, interned := interned.toArray }
  heap := heap
  slotsUsed := slotsUsed
  threads := #[{ frames := .invoking theMethod args0 :: below }]
def below0 : List Frame := [.native { method := ⟨0, 0⟩, args := #[] }]
def about1 : State := aboutOver below0
def p0 : Program := .bare "" "" ""
def e0 : Env := launch0.env 0 0 0
theorem w_frames : about1.frames = Frame.invoking theMethod args0 :: below0 := rfl
set_option maxRecDepth 65536 in
theorem w_args : argsFit about1.vm theMethod args0 = true := by decide +kernel
set_option maxRecDepth 65536 in
theorem w_heap : heapFits about1 = true := by decide +kernel
set_option maxRecDepth 65536 in
theorem w_runnable : about1.curStatus? = some .runnable := by decide +kernel
set_option maxRecDepth 65536 in
theorem w_alone : about1.alone = true := by decide +kernel
set_option maxRecDepth 65536 in
theorem w_named : about1.methodNamed? x = some theMethod := by decide +kernel
set_option maxRecDepth 65536 in
theorem w_hears : about1.hears theMethod below0 = true := by decide +kernel
set_option maxRecDepth 65536 in
theorem w_ripe : about1.ripe theMethod args0 below0 = true := by decide +kernel
theorem w_running : about1.status = .running := rfl
set_option maxRecDepth 65536 in
theorem w_room : about1.hasRoom e0.platform room_1 = true :=
  launch0.hasRoom_least _ room_1 (by decide +kernel) (by decide +kernel) (by decide +kernel) (by decide +kernel) (by decide +kernel) (by decide +kernel)
theorem allAtoms_all (ts : List Jvm.Cond) (a : Array Jvm.Value) (st : Jvm.State) : (allAtoms ts).before a st = ts.all (fun c => c.before a st) := by
  induction ts with
  | nil => rfl
  | cons c t ih =>
    show (Jvm.Cond.and c (allAtoms t)).before a st = _
    rw [Jvm.Cond.before_and, ih, List.all_cons]
def words1 : List Jvm.Cond := Jvm.Cond.code x code maxLocals ret :: tables_1
/-- a 'code' word, met by the world's own term for the bytes: nothing is compared byte by byte -/
theorem code_word {y : MethodName} {bytes : ByteArray} {mx : Nat} {rt : Option FieldType} {a : Array Value} {s : State} {m : MethodId} {meth : Method} {c : Code} (h1 : s.methodNamed? y = some m) (h2 : s.vm.method? m = some meth) (h3 : meth.code = some c) (h4 : c.code = bytes)
    (h5 : (c.maxLocals == mx && c.exceptionTable.isEmpty && decide (c.maxStack ≤ mostOperands) && decide (meth.sig.returnType = rt) && !meth.locks && decide (parseMethodDescriptor y.desc = some meth.sig)) = true) : (Jvm.Cond.code y bytes mx rt).before a s = true := by
  simp only [Bool.and_eq_true, beq_iff_eq, Bool.not_eq_true', decide_eq_true_eq] at h5
  obtain ⟨⟨⟨⟨⟨g1, g2⟩, g3⟩, g4⟩, g5⟩, g6⟩ := h5
  simp [Cond.before, Cond.holds, Cond.value, h1, h2, h3, h4, g1, g2, g3, g4, g5, g6]
def isCode : Jvm.Cond → Bool
  | .code _ _ _ _ => true
  | _ => false
theorem all_split {L : List Jvm.Cond} {P : Jvm.Cond → Bool} (h1 : L.all (fun c => isCode c || P c) = true) (h2 : ∀ c ∈ L.filter isCode, P c = true) : L.all P = true := by
  refine List.all_eq_true.mpr fun c hc => ?_
  have h := List.all_eq_true.mp h1 c hc
  rcases Bool.eq_false_or_eq_true (isCode c) with hi | hi
  · exact h2 c (List.mem_filter.mpr ⟨hc, hi⟩)
  · simpa [hi] using h
set_option maxRecDepth 65536 in
theorem w_c0 : (Jvm.Cond.code x code maxLocals ret).before args0 about1 = true := code_word (m := ⟨1, 1⟩) (meth := k1m1) (c := k1c1) (by decide +kernel) rfl rfl rfl (by decide +kernel)
set_option maxRecDepth 65536 in
theorem w_c1 : (Jvm.Cond.code ({ cls := "com/example/sameshape/sameshape/diff/Digest", name := "fold", desc := "(JJ)J" } : Jvm.MethodName) prog_20_method_2_code (6 : Nat) (Option.some Jvm.ClassFile.FieldType.long)).before args0 about1 = true := code_word (m := ⟨2, 1⟩) (meth := k2m1) (c := k2c1) (by decide +kernel) rfl rfl rfl (by decide +kernel)
def codes1 : List Jvm.Cond := [Jvm.Cond.code x code maxLocals ret, Jvm.Cond.code ({ cls := "com/example/sameshape/sameshape/diff/Digest", name := "fold", desc := "(JJ)J" } : Jvm.MethodName) prog_20_method_2_code (6 : Nat) (Option.some Jvm.ClassFile.FieldType.long)]
set_option maxRecDepth 65536 in
theorem codes_eq : words1.filter isCode = codes1 := rfl
theorem w_codes : ∀ c ∈ words1.filter isCode, c.before args0 about1 = true := by
  rw [codes_eq]
  intro c hc
  simp only [codes1, List.mem_cons, List.not_mem_nil, or_false] at hc
  rcases hc with rfl | rfl
  · exact w_c0
  · exact w_c1
set_option maxRecDepth 65536 in
theorem w_t1 : words1.all (fun c => isCode c || c.before args0 about1) = true := by decide +kernel
theorem w_tables : (allAtoms (Jvm.Cond.code x code maxLocals ret :: tables_1)).before args0 about1 = true := by
  rw [allAtoms_all]
  show words1.all (fun c => c.before args0 about1) = true
  refine all_split ?_ w_codes
  rw [w_t1]
set_option maxRecDepth 65536 in
theorem w_case : (Jvm.Cond.and given_1 narrow_1).before args0 about1 = true := by decide +kernel
theorem w_applies : (headSpec (Jvm.Cond.code x code maxLocals ret :: tables_1) room_1).applies x e0.platform about1 = true :=
  (Spec.applies_iff w_frames).mpr ⟨w_running, w_runnable, w_alone, w_named, w_hears, w_ripe, w_room, w_tables⟩
theorem atStart : AtStart classFile x code maxLocals ret World_1 tables_1 room_1 Calls_1 rest_1 Pre_1 launch0 p0 e0 about1 theMethod args0 below0 :=
  ⟨lists_1, trivial, launch0.admits_env _ _ _, launch0.least_env, fairChoices_fair.cas, fairChoices_fair.clock, w_frames, w_args, w_heap, w_applies, trivial, trivial, w_case⟩
end start1
theorem witness_1 : WitnessClaimed_1 := ⟨start1.p0, start1.e0, start1.about1, start1.theMethod, start1.args0, start1.below0, start1.atStart⟩
end Jvm.Pilot.@@N@@
