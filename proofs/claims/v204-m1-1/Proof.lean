import JvmDerived
import JvmDerived.Pilot.@@N@@Statement
import JvmDerived.Pilot.@@N@@Code
set_option linter.unusedVariables false
set_option linter.unusedSimpArgs false
@@BLOCK:NumsL.lean.txt@@
namespace Jvm.RoadKit
open Sem ClassFile Op Lib Jvm.Stand Jvm.Free Jvm.LawKit
section New
variable {p : Program} {l : Launch} {e : Env} {R : Room} {s : State} {m : MethodId} {args : Array Value} {below : List Frame} {meth : Method} {c : Code} {T : State} {locs : List Loc} {cells slots : Nat}
theorem retI (X : Stand p l e R s m args below meth c T locs cells slots) (hx : p.tables.exec = Jvm.exec) {pc : Nat} {Ls : Array Slot} {z : Int32} {rest : List Value} (hret : meth.sig.returnType = some .int) (hd : decode c.code pc = .ok (.ireturn, 1)) {fs : List Frame}
    (hl : ∀ (f : JFrame) (acts : List Action), f.method = m → f.locked = none → f.entered = [] → (doReturn e (T.setTop f) acts (some (.int z))).1 = T.setFrames fs) : Steps p.tables e below (T.setTop (mkF m pc Ls (.int z :: rest))) (T.setFrames fs) := by
  have hm' : T.vm.method? m = some meth := X.method'
  have hn : narrow .int (.int z) = .int z := rfl
  show Steps p.tables e below (T.setTop { method := m, pc := pc, locals := Ls, stack := _ :: rest, locked := none }) _
  jvm_step X.here [X.here.top, hx, hd, hm', hret, hn]
  first | (intro acts; rw [hl _ acts rfl rfl rfl]) | rw [hl _ _ rfl rfl rfl]
  exact Steps.refl _
end New
end Jvm.RoadKit
namespace Jvm.Pilot.@@N@@
open Jvm Jvm.ClassFile Sem Op Lib Jvm.Free Jvm.Stand Jvm.LawKit Jvm.RoadKit Bundle Jvm.Pilot.@@N@@.Jvm.D
/-- a body that returns r, makes and writes nothing -/
def QP (r : Value) (h0 : Heap) (n0 : Nat) (v : Option Value) (h : Heap) (L : List Loc) : Prop := v = some r ∧ Fr n0 L ∧ h = h0
theorem own_d_prog_21_method_5_code_0 : decode prog_21_method_5_code 0 = .ok (.iload_n 0, 1) := by decide +kernel
theorem own_d_prog_21_method_5_code_1 : decode prog_21_method_5_code 1 = .ok (.tableswitch 70 2 11 #[55, 70, 67, 70, 67, 70, 70, 67, 70, 67], 55) := by decide +kernel
theorem own_d_prog_21_method_5_code_71 : decode prog_21_method_5_code 71 = .ok (.bipush 31, 2) := by decide +kernel
theorem own_d_prog_21_method_5_code_73 : decode prog_21_method_5_code 73 = .ok (.ireturn, 1) := by decide +kernel
theorem own_d_prog_21_method_5_code_56 : decode prog_21_method_5_code 56 = .ok (.iload_n 1, 1) := by decide +kernel
theorem own_d_prog_21_method_5_code_57 : decode prog_21_method_5_code 57 = .ok (.ifCond .eq 8, 3) := by decide +kernel
theorem own_d_prog_21_method_5_code_65 : decode prog_21_method_5_code 65 = .ok (.bipush 28, 2) := by decide +kernel
theorem own_d_prog_21_method_5_code_67 : decode prog_21_method_5_code 67 = .ok (.ireturn, 1) := by decide +kernel
theorem own_d_prog_21_method_5_code_60 : decode prog_21_method_5_code 60 = .ok (.bipush 29, 2) := by decide +kernel
theorem own_d_prog_21_method_5_code_62 : decode prog_21_method_5_code 62 = .ok (.goto 5, 3) := by decide +kernel
theorem own_d_prog_21_method_5_code_68 : decode prog_21_method_5_code 68 = .ok (.bipush 30, 2) := by decide +kernel
theorem own_d_prog_21_method_5_code_70 : decode prog_21_method_5_code 70 = .ok (.ireturn, 1) := by decide +kernel
theorem own_d_method_2_code_0 : decode method_2_code 0 = .ok (.iload_n 0, 1) := by decide +kernel
theorem own_d_method_2_code_1 : decode method_2_code 1 = .ok (.iconst 2, 1) := by decide +kernel
theorem own_d_method_2_code_2 : decode method_2_code 2 = .ok (.if_icmp .ne 13, 3) := by decide +kernel
theorem own_d_method_2_code_5 : decode method_2_code 5 = .ok (.iload_n 1, 1) := by decide +kernel
theorem own_d_method_2_code_6 : decode method_2_code 6 = .ok (.ifCond .eq 6, 3) := by decide +kernel
theorem own_d_method_2_code_12 : decode method_2_code 12 = .ok (.bipush 28, 2) := by decide +kernel
theorem own_d_method_2_code_14 : decode method_2_code 14 = .ok (.ireturn, 1) := by decide +kernel
theorem own_d_method_2_code_9 : decode method_2_code 9 = .ok (.bipush 29, 2) := by decide +kernel
theorem own_d_method_2_code_11 : decode method_2_code 11 = .ok (.ireturn, 1) := by decide +kernel
theorem own_d_method_2_code_15 : decode method_2_code 15 = .ok (.bipush 30, 2) := by decide +kernel
theorem own_d_method_2_code_17 : decode method_2_code 17 = .ok (.iload_n 0, 1) := by decide +kernel
theorem own_d_method_2_code_18 : decode method_2_code 18 = .ok (.iload_n 0, 1) := by decide +kernel
theorem own_d_method_2_code_19 : decode method_2_code 19 = .ok (.iconst 3, 1) := by decide +kernel
theorem own_d_method_2_code_20 : decode method_2_code 20 = .ok (.ishr, 1) := by decide +kernel
theorem own_d_method_2_code_21 : decode method_2_code 21 = .ok (.ixor, 1) := by decide +kernel
theorem own_d_method_2_code_22 : decode method_2_code 22 = .ok (.iconst 1, 1) := by decide +kernel
theorem own_d_method_2_code_23 : decode method_2_code 23 = .ok (.iand, 1) := by decide +kernel
theorem own_d_method_2_code_24 : decode method_2_code 24 = .ok (.iadd, 1) := by decide +kernel
theorem own_d_method_2_code_25 : decode method_2_code 25 = .ok (.ireturn, 1) := by decide +kernel
theorem own_pd0 : parseMethodDescriptor "(IZ)I" = some ⟨[.int, .boolean], some .int⟩ := by decide +kernel
theorem own_pn0 : plainName "com/example/datewarden/datewarden/Gregorian" = true := by first | (simp [plainName, overriddenIn]; done) | decide +kernel
theorem own_pn1 : plainName "com/example/datewarden/datewarden/GregorianDaysInMonthPinLaw" = true := by first | (simp [plainName, overriddenIn]; done) | decide +kernel
def QL (n0 : Nat) (v : Option Value) (h : Heap) (L : List Loc) : Prop := v = some (.int 1) ∧ Fr n0 L
theorem own_lc0 {a b : Int64} (h : a = b) : lcmpW a b = 0 := (lcW a b).trans ((lc_eq a b).mpr h)
theorem own_lcn {a b : Int64} (h : ¬ a = b) : ¬ lcmpW a b = 0 := fun q => h ((lc_eq a b).mp ((lcW a b).symm.trans q))
theorem own_lclt {a b : Int64} (h : a < b) : lcmpW a b < 0 := (lcW a b).symm ▸ (lc_lt a b).mpr h
theorem own_lcge {a b : Int64} (h : ¬ a < b) : ¬ lcmpW a b < 0 := fun q => h ((lc_lt a b).mp ((lcW a b) ▸ q))
theorem own_lcgt {a b : Int64} (h : b < a) : 0 < lcmpW a b := (lcW a b).symm ▸ (lc_gt a b).mpr h
theorem own_lcle {a b : Int64} (h : ¬ b < a) : ¬ 0 < lcmpW a b := fun q => h ((lc_gt a b).mp ((lcW a b) ▸ q))
def own_days (m b : Int32) : Int32 := if m = 2 then (if b = 0 then 28 else 29) else if m = 4 ∨ m = 6 ∨ m = 9 ∨ m = 11 then 30 else 31
def own_exp (m b : Int32) : Int32 := if m = 2 then (if b = 0 then 28 else 29) else (30 : Int32) + ((m ^^^ (m >>> ((3 : Int32) &&& 31))) &&& (1 : Int32))
def own_mon (m : Int32) : Prop := m = 1 ∨ m = 2 ∨ m = 3 ∨ m = 4 ∨ m = 5 ∨ m = 6 ∨ m = 7 ∨ m = 8 ∨ m = 9 ∨ m = 10 ∨ m = 11 ∨ m = 12
theorem own_same {m b : Int32} (h : own_mon m) : own_days m b = own_exp m b := by
  by_cases hb : b = 0
  · subst hb; rcases h with rfl | rfl | rfl | rfl | rfl | rfl | rfl | rfl | rfl | rfl | rfl | rfl <;> decide +kernel
  · rcases h with rfl | rfl | rfl | rfl | rfl | rfl | rfl | rfl | rfl | rfl | rfl | rfl <;> first | (simp only [own_days, own_exp, hb]; decide +kernel) 
theorem own_month (a : Int32) : own_mon ((1 : Int32) + ((a &&& (2147483647 : Int32)) % (12 : Int32))) := by
  have e1 : (a &&& 2147483647).toInt = a.toInt % 2 ^ 31 := Jvm.Kit.i32_mask a 2147483647 (k := 31) (by decide) (by decide)
  generalize (a &&& 2147483647) = x at *
  have t12 : (12 : Int32).toInt = 12 := by decide
  have t1 : (1 : Int32).toInt = 1 := by decide
  have d2 : (x % (12 : Int32)).toInt = x.toInt % 12 := by rw [Int32.toInt_mod, t12, Int.tmod_eq_emod_of_nonneg (by omega)]
  have m4 : ((1 : Int32) + x % (12 : Int32)).toInt = 1 + x.toInt % 12 := by rw [Jvm.Kit.i32_add (by omega) (by omega), t1, d2]
  unfold own_mon
  simp only [← Int32.toInt_inj, m4]
  show 1 + x.toInt % 12 = 1 ∨ 1 + x.toInt % 12 = 2 ∨ 1 + x.toInt % 12 = 3 ∨ 1 + x.toInt % 12 = 4 ∨ 1 + x.toInt % 12 = 5 ∨ 1 + x.toInt % 12 = 6 ∨ 1 + x.toInt % 12 = 7 ∨ 1 + x.toInt % 12 = 8 ∨ 1 + x.toInt % 12 = 9 ∨ 1 + x.toInt % 12 = 10 ∨ 1 + x.toInt % 12 = 11 ∨ 1 + x.toInt % 12 = 12
  omega
theorem own_ef_rm1_1 (m : MethodId) (y0 : Int32) (y1 : Int32) : entryFrame m #[(.int y0), (.int y1)] 2 = mkF m 0 #[.val (.int y0), .val (.int y1)] [] := by first | (simp [entryFrame, mkF, argsToLocals, Value.category]; done) | rfl
set_option maxRecDepth 65536 in
set_option maxHeartbeats 40000000 in
theorem rm1_1 (l : Launch) (Z : State) (a0 : Array Value) (hw : ∀ d ∈ tables_1, d.before a0 Z = true) (ws : List Jvm.Cond) (p2 : Int32) (h0 : Heap) (n0 : Nat) (Z0 : n0 ≤ h0.size)  :
    MetFree l (⟨"com/example/datewarden/datewarden/Gregorian", "daysInMonth", "(IZ)I"⟩ : MethodName) (head1 (Jvm.Cond.code (⟨"com/example/datewarden/datewarden/Gregorian", "daysInMonth", "(IZ)I"⟩ : MethodName) prog_21_method_5_code 2 (some .int) :: ws) ({ frames := 0, cells := 0, slots := 0, locals := 0 } : Room)) (fun a U => a = #[(.int (1 : Int32)), (.int p2)] ∧ Z.Warmed39 U.vm ∧ U.heap = h0) (fun _ _ _ _ _ => True) (fun _ U o U' => ∃ v L, o = .returned v ∧ QP (.int (own_days (1 : Int32) p2)) h0 n0 v U'.heap L ∧ FrameEnd U o U' L ({ frames := 0, cells := 0, slots := 0, locals := 0 } : Room).cells ({ frames := 0, cells := 0, slots := 0, locals := 0 } : Room).slots) := by
  refine MetFree.of_bodySF (plainFor_of_name own_pn0) hisR ?_
  intro p e s m args below meth c s₁ Bd hml0 hP hK
  obtain ⟨rfl, hZ, hh⟩ := hP
  have hx := Bd.exec
  have hby := Bd.bytes
  have hml : c.maxLocals = 2 := hml0
  have hown : s.vm.findClass "com/example/datewarden/datewarden/Gregorian" = some m.cls := findClass_of_methodNamed Bd.named
  have hnm := (name_of_methodNamed Bd.named Bd.method).1
  have X0 : Stand p l e ({ frames := 0, cells := 0, slots := 0, locals := 0 } : Room) s m #[(.int (1 : Int32)), (.int p2)] below meth c s₁ [] 0 0 := Stand.of_body Bd
  have e0 : s₁.heap = h0 := by rw [← hh, Bd.state]; rfl
  have N0 := Fr.nil n0
  have pre0 : ∀ t, Steps p.tables e below (s₁.setTop (mkF m 0 #[.val (.int (1 : Int32)), .val (.int p2)] [])) t → Steps p.tables e below (s₁.setTop (entryFrame m #[(.int (1 : Int32)), (.int p2)] 2)) t := fun t k => castTop (own_ef_rm1_1 m (1 : Int32) p2) k
  have pre1 : ∀ t, Steps p.tables e below (s₁.setTop (mkF m 73 #[.val (.int (1 : Int32)), .val (.int p2)] [(.int (31 : Int32))])) t → Steps p.tables e below (s₁.setTop (entryFrame m #[(.int (1 : Int32)), (.int p2)] 2)) t := fun t k => pre0 t (by
    show Steps p.tables e below (s₁.setTop (mkF m 0 #[.val (.int (1 : Int32)), .val (.int p2)] [])) _
    refine XS.iloadN X0.here hx rfl (hb hby own_d_prog_21_method_5_code_0) rfl ?_
    show Steps p.tables e below (s₁.setTop (mkF m 1 #[.val (.int (1 : Int32)), .val (.int p2)] [(.int (1 : Int32))])) _
    refine XS.tswOut X0.here hx rfl (pc0 := 1) (pc' := 71) rfl (hb hby own_d_prog_21_method_5_code_1) rfl (by decide) (by decide) (by decide) ?_
    show Steps p.tables e below (s₁.setTop (mkF m 71 #[.val (.int (1 : Int32)), .val (.int p2)] [])) _
    refine XS.bipush X0.here hx rfl (hb hby own_d_prog_21_method_5_code_71) ?_
    exact k)
  obtain ⟨fs, hr, hrun, hended, hW, hsame⟩ := X0.leave (v := some (.int (31 : Int32))) (fun h => by rw [Bd.returns] at h; cases h)
  refine ⟨_, _, pre1 _ ?_, hrun, hended, _, _, rfl, ?_, ⟨_, rfl⟩, hW, hsame.mono (by decide) (by decide)⟩
  · show Steps p.tables e below (s₁.setTop (mkF m 73 #[.val (.int (1 : Int32)), .val (.int p2)] [(.int (31 : Int32))])) _
    exact retI X0 hx Bd.returns (hb hby own_d_prog_21_method_5_code_73) hr
  · show QP (.int (own_days (1 : Int32) p2)) h0 n0 _ s₁.heap _
    rw [e0]
    exact ⟨by simp [own_days], N0, rfl⟩
theorem own_ef_rm1_2 (m : MethodId) (y0 : Int32) (y1 : Int32) : entryFrame m #[(.int y0), (.int y1)] 2 = mkF m 0 #[.val (.int y0), .val (.int y1)] [] := by first | (simp [entryFrame, mkF, argsToLocals, Value.category]; done) | rfl
set_option maxRecDepth 65536 in
set_option maxHeartbeats 40000000 in
theorem rm1_2 (l : Launch) (Z : State) (a0 : Array Value) (hw : ∀ d ∈ tables_1, d.before a0 Z = true) (ws : List Jvm.Cond) (p2 : Int32) (h0 : Heap) (n0 : Nat) (Z0 : n0 ≤ h0.size)  :
    MetFree l (⟨"com/example/datewarden/datewarden/Gregorian", "daysInMonth", "(IZ)I"⟩ : MethodName) (head1 (Jvm.Cond.code (⟨"com/example/datewarden/datewarden/Gregorian", "daysInMonth", "(IZ)I"⟩ : MethodName) prog_21_method_5_code 2 (some .int) :: ws) ({ frames := 0, cells := 0, slots := 0, locals := 0 } : Room)) (fun a U => a = #[(.int (2 : Int32)), (.int p2)] ∧ Z.Warmed39 U.vm ∧ U.heap = h0) (fun _ _ _ _ _ => True) (fun _ U o U' => ∃ v L, o = .returned v ∧ QP (.int (own_days (2 : Int32) p2)) h0 n0 v U'.heap L ∧ FrameEnd U o U' L ({ frames := 0, cells := 0, slots := 0, locals := 0 } : Room).cells ({ frames := 0, cells := 0, slots := 0, locals := 0 } : Room).slots) := by
  refine MetFree.of_bodySF (plainFor_of_name own_pn0) hisR ?_
  intro p e s m args below meth c s₁ Bd hml0 hP hK
  obtain ⟨rfl, hZ, hh⟩ := hP
  have hx := Bd.exec
  have hby := Bd.bytes
  have hml : c.maxLocals = 2 := hml0
  have hown : s.vm.findClass "com/example/datewarden/datewarden/Gregorian" = some m.cls := findClass_of_methodNamed Bd.named
  have hnm := (name_of_methodNamed Bd.named Bd.method).1
  have X0 : Stand p l e ({ frames := 0, cells := 0, slots := 0, locals := 0 } : Room) s m #[(.int (2 : Int32)), (.int p2)] below meth c s₁ [] 0 0 := Stand.of_body Bd
  have e0 : s₁.heap = h0 := by rw [← hh, Bd.state]; rfl
  have N0 := Fr.nil n0
  have pre0 : ∀ t, Steps p.tables e below (s₁.setTop (mkF m 0 #[.val (.int (2 : Int32)), .val (.int p2)] [])) t → Steps p.tables e below (s₁.setTop (entryFrame m #[(.int (2 : Int32)), (.int p2)] 2)) t := fun t k => castTop (own_ef_rm1_2 m (2 : Int32) p2) k
  have pre1 : ∀ t, Steps p.tables e below (s₁.setTop (mkF m 57 #[.val (.int (2 : Int32)), .val (.int p2)] [(.int p2)])) t → Steps p.tables e below (s₁.setTop (entryFrame m #[(.int (2 : Int32)), (.int p2)] 2)) t := fun t k => pre0 t (by
    show Steps p.tables e below (s₁.setTop (mkF m 0 #[.val (.int (2 : Int32)), .val (.int p2)] [])) _
    refine XS.iloadN X0.here hx rfl (hb hby own_d_prog_21_method_5_code_0) rfl ?_
    show Steps p.tables e below (s₁.setTop (mkF m 1 #[.val (.int (2 : Int32)), .val (.int p2)] [(.int (2 : Int32))])) _
    refine XS.tswIn X0.here hx rfl (pc0 := 1) (pc' := 56) rfl (hb hby own_d_prog_21_method_5_code_1) rfl (o := 55) (by decide) (by decide) (by decide) (by decide) ?_
    show Steps p.tables e below (s₁.setTop (mkF m 56 #[.val (.int (2 : Int32)), .val (.int p2)] [])) _
    refine XS.iloadN X0.here hx rfl (hb hby own_d_prog_21_method_5_code_56) rfl ?_
    exact k)
  by_cases hc : p2 = (0 : Int32)
  · have pre2 : ∀ t, Steps p.tables e below (s₁.setTop (mkF m 67 #[.val (.int (2 : Int32)), .val (.int p2)] [(.int (28 : Int32))])) t → Steps p.tables e below (s₁.setTop (entryFrame m #[(.int (2 : Int32)), (.int p2)] 2)) t := fun t k => pre1 t (by
      show Steps p.tables e below (s₁.setTop (mkF m 57 #[.val (.int (2 : Int32)), .val (.int p2)] [(.int p2)])) _
      refine XS.ifYes X0.here hx rfl (pc0 := 57) (pc' := 65) rfl (hb hby own_d_prog_21_method_5_code_57) rfl ((if0 _ _).trans (teq (hc : p2 = (0 : Int32))).1) (by decide) (by decide) ?_
      show Steps p.tables e below (s₁.setTop (mkF m 65 #[.val (.int (2 : Int32)), .val (.int p2)] [])) _
      refine XS.bipush X0.here hx rfl (hb hby own_d_prog_21_method_5_code_65) ?_
      exact k)
    obtain ⟨fs, hr, hrun, hended, hW, hsame⟩ := X0.leave (v := some (.int (28 : Int32))) (fun h => by rw [Bd.returns] at h; cases h)
    refine ⟨_, _, pre2 _ ?_, hrun, hended, _, _, rfl, ?_, ⟨_, rfl⟩, hW, hsame.mono (by decide) (by decide)⟩
    · show Steps p.tables e below (s₁.setTop (mkF m 67 #[.val (.int (2 : Int32)), .val (.int p2)] [(.int (28 : Int32))])) _
      exact retI X0 hx Bd.returns (hb hby own_d_prog_21_method_5_code_67) hr
    · show QP (.int (own_days (2 : Int32) p2)) h0 n0 _ s₁.heap _
      rw [e0]
      exact ⟨by simp [own_days, hc], N0, rfl⟩
  · have pre3 : ∀ t, Steps p.tables e below (s₁.setTop (mkF m 67 #[.val (.int (2 : Int32)), .val (.int p2)] [(.int (29 : Int32))])) t → Steps p.tables e below (s₁.setTop (entryFrame m #[(.int (2 : Int32)), (.int p2)] 2)) t := fun t k => pre1 t (by
      show Steps p.tables e below (s₁.setTop (mkF m 57 #[.val (.int (2 : Int32)), .val (.int p2)] [(.int p2)])) _
      refine XS.ifNo X0.here hx rfl (hb hby own_d_prog_21_method_5_code_57) rfl ((if0 _ _).trans (feq (hc : ¬ (p2 = (0 : Int32)))).1) ?_
      show Steps p.tables e below (s₁.setTop (mkF m 60 #[.val (.int (2 : Int32)), .val (.int p2)] [])) _
      refine XS.bipush X0.here hx rfl (hb hby own_d_prog_21_method_5_code_60) ?_
      show Steps p.tables e below (s₁.setTop (mkF m 62 #[.val (.int (2 : Int32)), .val (.int p2)] [(.int (29 : Int32))])) _
      refine XS.goto X0.here hx rfl (pc0 := 62) (pc' := 67) rfl (hb hby own_d_prog_21_method_5_code_62) (by decide) (by decide) ?_
      exact k)
    obtain ⟨fs, hr, hrun, hended, hW, hsame⟩ := X0.leave (v := some (.int (29 : Int32))) (fun h => by rw [Bd.returns] at h; cases h)
    refine ⟨_, _, pre3 _ ?_, hrun, hended, _, _, rfl, ?_, ⟨_, rfl⟩, hW, hsame.mono (by decide) (by decide)⟩
    · show Steps p.tables e below (s₁.setTop (mkF m 67 #[.val (.int (2 : Int32)), .val (.int p2)] [(.int (29 : Int32))])) _
      exact retI X0 hx Bd.returns (hb hby own_d_prog_21_method_5_code_67) hr
    · show QP (.int (own_days (2 : Int32) p2)) h0 n0 _ s₁.heap _
      rw [e0]
      exact ⟨by simp [own_days, hc], N0, rfl⟩
theorem own_ef_rm1_3 (m : MethodId) (y0 : Int32) (y1 : Int32) : entryFrame m #[(.int y0), (.int y1)] 2 = mkF m 0 #[.val (.int y0), .val (.int y1)] [] := by first | (simp [entryFrame, mkF, argsToLocals, Value.category]; done) | rfl
set_option maxRecDepth 65536 in
set_option maxHeartbeats 40000000 in
theorem rm1_3 (l : Launch) (Z : State) (a0 : Array Value) (hw : ∀ d ∈ tables_1, d.before a0 Z = true) (ws : List Jvm.Cond) (p2 : Int32) (h0 : Heap) (n0 : Nat) (Z0 : n0 ≤ h0.size)  :
    MetFree l (⟨"com/example/datewarden/datewarden/Gregorian", "daysInMonth", "(IZ)I"⟩ : MethodName) (head1 (Jvm.Cond.code (⟨"com/example/datewarden/datewarden/Gregorian", "daysInMonth", "(IZ)I"⟩ : MethodName) prog_21_method_5_code 2 (some .int) :: ws) ({ frames := 0, cells := 0, slots := 0, locals := 0 } : Room)) (fun a U => a = #[(.int (3 : Int32)), (.int p2)] ∧ Z.Warmed39 U.vm ∧ U.heap = h0) (fun _ _ _ _ _ => True) (fun _ U o U' => ∃ v L, o = .returned v ∧ QP (.int (own_days (3 : Int32) p2)) h0 n0 v U'.heap L ∧ FrameEnd U o U' L ({ frames := 0, cells := 0, slots := 0, locals := 0 } : Room).cells ({ frames := 0, cells := 0, slots := 0, locals := 0 } : Room).slots) := by
  refine MetFree.of_bodySF (plainFor_of_name own_pn0) hisR ?_
  intro p e s m args below meth c s₁ Bd hml0 hP hK
  obtain ⟨rfl, hZ, hh⟩ := hP
  have hx := Bd.exec
  have hby := Bd.bytes
  have hml : c.maxLocals = 2 := hml0
  have hown : s.vm.findClass "com/example/datewarden/datewarden/Gregorian" = some m.cls := findClass_of_methodNamed Bd.named
  have hnm := (name_of_methodNamed Bd.named Bd.method).1
  have X0 : Stand p l e ({ frames := 0, cells := 0, slots := 0, locals := 0 } : Room) s m #[(.int (3 : Int32)), (.int p2)] below meth c s₁ [] 0 0 := Stand.of_body Bd
  have e0 : s₁.heap = h0 := by rw [← hh, Bd.state]; rfl
  have N0 := Fr.nil n0
  have pre0 : ∀ t, Steps p.tables e below (s₁.setTop (mkF m 0 #[.val (.int (3 : Int32)), .val (.int p2)] [])) t → Steps p.tables e below (s₁.setTop (entryFrame m #[(.int (3 : Int32)), (.int p2)] 2)) t := fun t k => castTop (own_ef_rm1_3 m (3 : Int32) p2) k
  have pre1 : ∀ t, Steps p.tables e below (s₁.setTop (mkF m 73 #[.val (.int (3 : Int32)), .val (.int p2)] [(.int (31 : Int32))])) t → Steps p.tables e below (s₁.setTop (entryFrame m #[(.int (3 : Int32)), (.int p2)] 2)) t := fun t k => pre0 t (by
    show Steps p.tables e below (s₁.setTop (mkF m 0 #[.val (.int (3 : Int32)), .val (.int p2)] [])) _
    refine XS.iloadN X0.here hx rfl (hb hby own_d_prog_21_method_5_code_0) rfl ?_
    show Steps p.tables e below (s₁.setTop (mkF m 1 #[.val (.int (3 : Int32)), .val (.int p2)] [(.int (3 : Int32))])) _
    refine XS.tswIn X0.here hx rfl (pc0 := 1) (pc' := 71) rfl (hb hby own_d_prog_21_method_5_code_1) rfl (o := 70) (by decide) (by decide) (by decide) (by decide) ?_
    show Steps p.tables e below (s₁.setTop (mkF m 71 #[.val (.int (3 : Int32)), .val (.int p2)] [])) _
    refine XS.bipush X0.here hx rfl (hb hby own_d_prog_21_method_5_code_71) ?_
    exact k)
  obtain ⟨fs, hr, hrun, hended, hW, hsame⟩ := X0.leave (v := some (.int (31 : Int32))) (fun h => by rw [Bd.returns] at h; cases h)
  refine ⟨_, _, pre1 _ ?_, hrun, hended, _, _, rfl, ?_, ⟨_, rfl⟩, hW, hsame.mono (by decide) (by decide)⟩
  · show Steps p.tables e below (s₁.setTop (mkF m 73 #[.val (.int (3 : Int32)), .val (.int p2)] [(.int (31 : Int32))])) _
    exact retI X0 hx Bd.returns (hb hby own_d_prog_21_method_5_code_73) hr
  · show QP (.int (own_days (3 : Int32) p2)) h0 n0 _ s₁.heap _
    rw [e0]
    exact ⟨by simp [own_days], N0, rfl⟩
theorem own_ef_rm1_4 (m : MethodId) (y0 : Int32) (y1 : Int32) : entryFrame m #[(.int y0), (.int y1)] 2 = mkF m 0 #[.val (.int y0), .val (.int y1)] [] := by first | (simp [entryFrame, mkF, argsToLocals, Value.category]; done) | rfl
set_option maxRecDepth 65536 in
set_option maxHeartbeats 40000000 in
theorem rm1_4 (l : Launch) (Z : State) (a0 : Array Value) (hw : ∀ d ∈ tables_1, d.before a0 Z = true) (ws : List Jvm.Cond) (p2 : Int32) (h0 : Heap) (n0 : Nat) (Z0 : n0 ≤ h0.size)  :
    MetFree l (⟨"com/example/datewarden/datewarden/Gregorian", "daysInMonth", "(IZ)I"⟩ : MethodName) (head1 (Jvm.Cond.code (⟨"com/example/datewarden/datewarden/Gregorian", "daysInMonth", "(IZ)I"⟩ : MethodName) prog_21_method_5_code 2 (some .int) :: ws) ({ frames := 0, cells := 0, slots := 0, locals := 0 } : Room)) (fun a U => a = #[(.int (4 : Int32)), (.int p2)] ∧ Z.Warmed39 U.vm ∧ U.heap = h0) (fun _ _ _ _ _ => True) (fun _ U o U' => ∃ v L, o = .returned v ∧ QP (.int (own_days (4 : Int32) p2)) h0 n0 v U'.heap L ∧ FrameEnd U o U' L ({ frames := 0, cells := 0, slots := 0, locals := 0 } : Room).cells ({ frames := 0, cells := 0, slots := 0, locals := 0 } : Room).slots) := by
  refine MetFree.of_bodySF (plainFor_of_name own_pn0) hisR ?_
  intro p e s m args below meth c s₁ Bd hml0 hP hK
  obtain ⟨rfl, hZ, hh⟩ := hP
  have hx := Bd.exec
  have hby := Bd.bytes
  have hml : c.maxLocals = 2 := hml0
  have hown : s.vm.findClass "com/example/datewarden/datewarden/Gregorian" = some m.cls := findClass_of_methodNamed Bd.named
  have hnm := (name_of_methodNamed Bd.named Bd.method).1
  have X0 : Stand p l e ({ frames := 0, cells := 0, slots := 0, locals := 0 } : Room) s m #[(.int (4 : Int32)), (.int p2)] below meth c s₁ [] 0 0 := Stand.of_body Bd
  have e0 : s₁.heap = h0 := by rw [← hh, Bd.state]; rfl
  have N0 := Fr.nil n0
  have pre0 : ∀ t, Steps p.tables e below (s₁.setTop (mkF m 0 #[.val (.int (4 : Int32)), .val (.int p2)] [])) t → Steps p.tables e below (s₁.setTop (entryFrame m #[(.int (4 : Int32)), (.int p2)] 2)) t := fun t k => castTop (own_ef_rm1_4 m (4 : Int32) p2) k
  have pre1 : ∀ t, Steps p.tables e below (s₁.setTop (mkF m 70 #[.val (.int (4 : Int32)), .val (.int p2)] [(.int (30 : Int32))])) t → Steps p.tables e below (s₁.setTop (entryFrame m #[(.int (4 : Int32)), (.int p2)] 2)) t := fun t k => pre0 t (by
    show Steps p.tables e below (s₁.setTop (mkF m 0 #[.val (.int (4 : Int32)), .val (.int p2)] [])) _
    refine XS.iloadN X0.here hx rfl (hb hby own_d_prog_21_method_5_code_0) rfl ?_
    show Steps p.tables e below (s₁.setTop (mkF m 1 #[.val (.int (4 : Int32)), .val (.int p2)] [(.int (4 : Int32))])) _
    refine XS.tswIn X0.here hx rfl (pc0 := 1) (pc' := 68) rfl (hb hby own_d_prog_21_method_5_code_1) rfl (o := 67) (by decide) (by decide) (by decide) (by decide) ?_
    show Steps p.tables e below (s₁.setTop (mkF m 68 #[.val (.int (4 : Int32)), .val (.int p2)] [])) _
    refine XS.bipush X0.here hx rfl (hb hby own_d_prog_21_method_5_code_68) ?_
    exact k)
  obtain ⟨fs, hr, hrun, hended, hW, hsame⟩ := X0.leave (v := some (.int (30 : Int32))) (fun h => by rw [Bd.returns] at h; cases h)
  refine ⟨_, _, pre1 _ ?_, hrun, hended, _, _, rfl, ?_, ⟨_, rfl⟩, hW, hsame.mono (by decide) (by decide)⟩
  · show Steps p.tables e below (s₁.setTop (mkF m 70 #[.val (.int (4 : Int32)), .val (.int p2)] [(.int (30 : Int32))])) _
    exact retI X0 hx Bd.returns (hb hby own_d_prog_21_method_5_code_70) hr
  · show QP (.int (own_days (4 : Int32) p2)) h0 n0 _ s₁.heap _
    rw [e0]
    exact ⟨by simp [own_days], N0, rfl⟩
theorem own_ef_rm1_5 (m : MethodId) (y0 : Int32) (y1 : Int32) : entryFrame m #[(.int y0), (.int y1)] 2 = mkF m 0 #[.val (.int y0), .val (.int y1)] [] := by first | (simp [entryFrame, mkF, argsToLocals, Value.category]; done) | rfl
set_option maxRecDepth 65536 in
set_option maxHeartbeats 40000000 in
theorem rm1_5 (l : Launch) (Z : State) (a0 : Array Value) (hw : ∀ d ∈ tables_1, d.before a0 Z = true) (ws : List Jvm.Cond) (p2 : Int32) (h0 : Heap) (n0 : Nat) (Z0 : n0 ≤ h0.size)  :
    MetFree l (⟨"com/example/datewarden/datewarden/Gregorian", "daysInMonth", "(IZ)I"⟩ : MethodName) (head1 (Jvm.Cond.code (⟨"com/example/datewarden/datewarden/Gregorian", "daysInMonth", "(IZ)I"⟩ : MethodName) prog_21_method_5_code 2 (some .int) :: ws) ({ frames := 0, cells := 0, slots := 0, locals := 0 } : Room)) (fun a U => a = #[(.int (5 : Int32)), (.int p2)] ∧ Z.Warmed39 U.vm ∧ U.heap = h0) (fun _ _ _ _ _ => True) (fun _ U o U' => ∃ v L, o = .returned v ∧ QP (.int (own_days (5 : Int32) p2)) h0 n0 v U'.heap L ∧ FrameEnd U o U' L ({ frames := 0, cells := 0, slots := 0, locals := 0 } : Room).cells ({ frames := 0, cells := 0, slots := 0, locals := 0 } : Room).slots) := by
  refine MetFree.of_bodySF (plainFor_of_name own_pn0) hisR ?_
  intro p e s m args below meth c s₁ Bd hml0 hP hK
  obtain ⟨rfl, hZ, hh⟩ := hP
  have hx := Bd.exec
  have hby := Bd.bytes
  have hml : c.maxLocals = 2 := hml0
  have hown : s.vm.findClass "com/example/datewarden/datewarden/Gregorian" = some m.cls := findClass_of_methodNamed Bd.named
  have hnm := (name_of_methodNamed Bd.named Bd.method).1
  have X0 : Stand p l e ({ frames := 0, cells := 0, slots := 0, locals := 0 } : Room) s m #[(.int (5 : Int32)), (.int p2)] below meth c s₁ [] 0 0 := Stand.of_body Bd
  have e0 : s₁.heap = h0 := by rw [← hh, Bd.state]; rfl
  have N0 := Fr.nil n0
  have pre0 : ∀ t, Steps p.tables e below (s₁.setTop (mkF m 0 #[.val (.int (5 : Int32)), .val (.int p2)] [])) t → Steps p.tables e below (s₁.setTop (entryFrame m #[(.int (5 : Int32)), (.int p2)] 2)) t := fun t k => castTop (own_ef_rm1_5 m (5 : Int32) p2) k
  have pre1 : ∀ t, Steps p.tables e below (s₁.setTop (mkF m 73 #[.val (.int (5 : Int32)), .val (.int p2)] [(.int (31 : Int32))])) t → Steps p.tables e below (s₁.setTop (entryFrame m #[(.int (5 : Int32)), (.int p2)] 2)) t := fun t k => pre0 t (by
    show Steps p.tables e below (s₁.setTop (mkF m 0 #[.val (.int (5 : Int32)), .val (.int p2)] [])) _
    refine XS.iloadN X0.here hx rfl (hb hby own_d_prog_21_method_5_code_0) rfl ?_
    show Steps p.tables e below (s₁.setTop (mkF m 1 #[.val (.int (5 : Int32)), .val (.int p2)] [(.int (5 : Int32))])) _
    refine XS.tswIn X0.here hx rfl (pc0 := 1) (pc' := 71) rfl (hb hby own_d_prog_21_method_5_code_1) rfl (o := 70) (by decide) (by decide) (by decide) (by decide) ?_
    show Steps p.tables e below (s₁.setTop (mkF m 71 #[.val (.int (5 : Int32)), .val (.int p2)] [])) _
    refine XS.bipush X0.here hx rfl (hb hby own_d_prog_21_method_5_code_71) ?_
    exact k)
  obtain ⟨fs, hr, hrun, hended, hW, hsame⟩ := X0.leave (v := some (.int (31 : Int32))) (fun h => by rw [Bd.returns] at h; cases h)
  refine ⟨_, _, pre1 _ ?_, hrun, hended, _, _, rfl, ?_, ⟨_, rfl⟩, hW, hsame.mono (by decide) (by decide)⟩
  · show Steps p.tables e below (s₁.setTop (mkF m 73 #[.val (.int (5 : Int32)), .val (.int p2)] [(.int (31 : Int32))])) _
    exact retI X0 hx Bd.returns (hb hby own_d_prog_21_method_5_code_73) hr
  · show QP (.int (own_days (5 : Int32) p2)) h0 n0 _ s₁.heap _
    rw [e0]
    exact ⟨by simp [own_days], N0, rfl⟩
theorem own_ef_rm1_6 (m : MethodId) (y0 : Int32) (y1 : Int32) : entryFrame m #[(.int y0), (.int y1)] 2 = mkF m 0 #[.val (.int y0), .val (.int y1)] [] := by first | (simp [entryFrame, mkF, argsToLocals, Value.category]; done) | rfl
set_option maxRecDepth 65536 in
set_option maxHeartbeats 40000000 in
theorem rm1_6 (l : Launch) (Z : State) (a0 : Array Value) (hw : ∀ d ∈ tables_1, d.before a0 Z = true) (ws : List Jvm.Cond) (p2 : Int32) (h0 : Heap) (n0 : Nat) (Z0 : n0 ≤ h0.size)  :
    MetFree l (⟨"com/example/datewarden/datewarden/Gregorian", "daysInMonth", "(IZ)I"⟩ : MethodName) (head1 (Jvm.Cond.code (⟨"com/example/datewarden/datewarden/Gregorian", "daysInMonth", "(IZ)I"⟩ : MethodName) prog_21_method_5_code 2 (some .int) :: ws) ({ frames := 0, cells := 0, slots := 0, locals := 0 } : Room)) (fun a U => a = #[(.int (6 : Int32)), (.int p2)] ∧ Z.Warmed39 U.vm ∧ U.heap = h0) (fun _ _ _ _ _ => True) (fun _ U o U' => ∃ v L, o = .returned v ∧ QP (.int (own_days (6 : Int32) p2)) h0 n0 v U'.heap L ∧ FrameEnd U o U' L ({ frames := 0, cells := 0, slots := 0, locals := 0 } : Room).cells ({ frames := 0, cells := 0, slots := 0, locals := 0 } : Room).slots) := by
  refine MetFree.of_bodySF (plainFor_of_name own_pn0) hisR ?_
  intro p e s m args below meth c s₁ Bd hml0 hP hK
  obtain ⟨rfl, hZ, hh⟩ := hP
  have hx := Bd.exec
  have hby := Bd.bytes
  have hml : c.maxLocals = 2 := hml0
  have hown : s.vm.findClass "com/example/datewarden/datewarden/Gregorian" = some m.cls := findClass_of_methodNamed Bd.named
  have hnm := (name_of_methodNamed Bd.named Bd.method).1
  have X0 : Stand p l e ({ frames := 0, cells := 0, slots := 0, locals := 0 } : Room) s m #[(.int (6 : Int32)), (.int p2)] below meth c s₁ [] 0 0 := Stand.of_body Bd
  have e0 : s₁.heap = h0 := by rw [← hh, Bd.state]; rfl
  have N0 := Fr.nil n0
  have pre0 : ∀ t, Steps p.tables e below (s₁.setTop (mkF m 0 #[.val (.int (6 : Int32)), .val (.int p2)] [])) t → Steps p.tables e below (s₁.setTop (entryFrame m #[(.int (6 : Int32)), (.int p2)] 2)) t := fun t k => castTop (own_ef_rm1_6 m (6 : Int32) p2) k
  have pre1 : ∀ t, Steps p.tables e below (s₁.setTop (mkF m 70 #[.val (.int (6 : Int32)), .val (.int p2)] [(.int (30 : Int32))])) t → Steps p.tables e below (s₁.setTop (entryFrame m #[(.int (6 : Int32)), (.int p2)] 2)) t := fun t k => pre0 t (by
    show Steps p.tables e below (s₁.setTop (mkF m 0 #[.val (.int (6 : Int32)), .val (.int p2)] [])) _
    refine XS.iloadN X0.here hx rfl (hb hby own_d_prog_21_method_5_code_0) rfl ?_
    show Steps p.tables e below (s₁.setTop (mkF m 1 #[.val (.int (6 : Int32)), .val (.int p2)] [(.int (6 : Int32))])) _
    refine XS.tswIn X0.here hx rfl (pc0 := 1) (pc' := 68) rfl (hb hby own_d_prog_21_method_5_code_1) rfl (o := 67) (by decide) (by decide) (by decide) (by decide) ?_
    show Steps p.tables e below (s₁.setTop (mkF m 68 #[.val (.int (6 : Int32)), .val (.int p2)] [])) _
    refine XS.bipush X0.here hx rfl (hb hby own_d_prog_21_method_5_code_68) ?_
    exact k)
  obtain ⟨fs, hr, hrun, hended, hW, hsame⟩ := X0.leave (v := some (.int (30 : Int32))) (fun h => by rw [Bd.returns] at h; cases h)
  refine ⟨_, _, pre1 _ ?_, hrun, hended, _, _, rfl, ?_, ⟨_, rfl⟩, hW, hsame.mono (by decide) (by decide)⟩
  · show Steps p.tables e below (s₁.setTop (mkF m 70 #[.val (.int (6 : Int32)), .val (.int p2)] [(.int (30 : Int32))])) _
    exact retI X0 hx Bd.returns (hb hby own_d_prog_21_method_5_code_70) hr
  · show QP (.int (own_days (6 : Int32) p2)) h0 n0 _ s₁.heap _
    rw [e0]
    exact ⟨by simp [own_days], N0, rfl⟩
theorem own_ef_rm1_7 (m : MethodId) (y0 : Int32) (y1 : Int32) : entryFrame m #[(.int y0), (.int y1)] 2 = mkF m 0 #[.val (.int y0), .val (.int y1)] [] := by first | (simp [entryFrame, mkF, argsToLocals, Value.category]; done) | rfl
set_option maxRecDepth 65536 in
set_option maxHeartbeats 40000000 in
theorem rm1_7 (l : Launch) (Z : State) (a0 : Array Value) (hw : ∀ d ∈ tables_1, d.before a0 Z = true) (ws : List Jvm.Cond) (p2 : Int32) (h0 : Heap) (n0 : Nat) (Z0 : n0 ≤ h0.size)  :
    MetFree l (⟨"com/example/datewarden/datewarden/Gregorian", "daysInMonth", "(IZ)I"⟩ : MethodName) (head1 (Jvm.Cond.code (⟨"com/example/datewarden/datewarden/Gregorian", "daysInMonth", "(IZ)I"⟩ : MethodName) prog_21_method_5_code 2 (some .int) :: ws) ({ frames := 0, cells := 0, slots := 0, locals := 0 } : Room)) (fun a U => a = #[(.int (7 : Int32)), (.int p2)] ∧ Z.Warmed39 U.vm ∧ U.heap = h0) (fun _ _ _ _ _ => True) (fun _ U o U' => ∃ v L, o = .returned v ∧ QP (.int (own_days (7 : Int32) p2)) h0 n0 v U'.heap L ∧ FrameEnd U o U' L ({ frames := 0, cells := 0, slots := 0, locals := 0 } : Room).cells ({ frames := 0, cells := 0, slots := 0, locals := 0 } : Room).slots) := by
  refine MetFree.of_bodySF (plainFor_of_name own_pn0) hisR ?_
  intro p e s m args below meth c s₁ Bd hml0 hP hK
  obtain ⟨rfl, hZ, hh⟩ := hP
  have hx := Bd.exec
  have hby := Bd.bytes
  have hml : c.maxLocals = 2 := hml0
  have hown : s.vm.findClass "com/example/datewarden/datewarden/Gregorian" = some m.cls := findClass_of_methodNamed Bd.named
  have hnm := (name_of_methodNamed Bd.named Bd.method).1
  have X0 : Stand p l e ({ frames := 0, cells := 0, slots := 0, locals := 0 } : Room) s m #[(.int (7 : Int32)), (.int p2)] below meth c s₁ [] 0 0 := Stand.of_body Bd
  have e0 : s₁.heap = h0 := by rw [← hh, Bd.state]; rfl
  have N0 := Fr.nil n0
  have pre0 : ∀ t, Steps p.tables e below (s₁.setTop (mkF m 0 #[.val (.int (7 : Int32)), .val (.int p2)] [])) t → Steps p.tables e below (s₁.setTop (entryFrame m #[(.int (7 : Int32)), (.int p2)] 2)) t := fun t k => castTop (own_ef_rm1_7 m (7 : Int32) p2) k
  have pre1 : ∀ t, Steps p.tables e below (s₁.setTop (mkF m 73 #[.val (.int (7 : Int32)), .val (.int p2)] [(.int (31 : Int32))])) t → Steps p.tables e below (s₁.setTop (entryFrame m #[(.int (7 : Int32)), (.int p2)] 2)) t := fun t k => pre0 t (by
    show Steps p.tables e below (s₁.setTop (mkF m 0 #[.val (.int (7 : Int32)), .val (.int p2)] [])) _
    refine XS.iloadN X0.here hx rfl (hb hby own_d_prog_21_method_5_code_0) rfl ?_
    show Steps p.tables e below (s₁.setTop (mkF m 1 #[.val (.int (7 : Int32)), .val (.int p2)] [(.int (7 : Int32))])) _
    refine XS.tswIn X0.here hx rfl (pc0 := 1) (pc' := 71) rfl (hb hby own_d_prog_21_method_5_code_1) rfl (o := 70) (by decide) (by decide) (by decide) (by decide) ?_
    show Steps p.tables e below (s₁.setTop (mkF m 71 #[.val (.int (7 : Int32)), .val (.int p2)] [])) _
    refine XS.bipush X0.here hx rfl (hb hby own_d_prog_21_method_5_code_71) ?_
    exact k)
  obtain ⟨fs, hr, hrun, hended, hW, hsame⟩ := X0.leave (v := some (.int (31 : Int32))) (fun h => by rw [Bd.returns] at h; cases h)
  refine ⟨_, _, pre1 _ ?_, hrun, hended, _, _, rfl, ?_, ⟨_, rfl⟩, hW, hsame.mono (by decide) (by decide)⟩
  · show Steps p.tables e below (s₁.setTop (mkF m 73 #[.val (.int (7 : Int32)), .val (.int p2)] [(.int (31 : Int32))])) _
    exact retI X0 hx Bd.returns (hb hby own_d_prog_21_method_5_code_73) hr
  · show QP (.int (own_days (7 : Int32) p2)) h0 n0 _ s₁.heap _
    rw [e0]
    exact ⟨by simp [own_days], N0, rfl⟩
theorem own_ef_rm1_8 (m : MethodId) (y0 : Int32) (y1 : Int32) : entryFrame m #[(.int y0), (.int y1)] 2 = mkF m 0 #[.val (.int y0), .val (.int y1)] [] := by first | (simp [entryFrame, mkF, argsToLocals, Value.category]; done) | rfl
set_option maxRecDepth 65536 in
set_option maxHeartbeats 40000000 in
theorem rm1_8 (l : Launch) (Z : State) (a0 : Array Value) (hw : ∀ d ∈ tables_1, d.before a0 Z = true) (ws : List Jvm.Cond) (p2 : Int32) (h0 : Heap) (n0 : Nat) (Z0 : n0 ≤ h0.size)  :
    MetFree l (⟨"com/example/datewarden/datewarden/Gregorian", "daysInMonth", "(IZ)I"⟩ : MethodName) (head1 (Jvm.Cond.code (⟨"com/example/datewarden/datewarden/Gregorian", "daysInMonth", "(IZ)I"⟩ : MethodName) prog_21_method_5_code 2 (some .int) :: ws) ({ frames := 0, cells := 0, slots := 0, locals := 0 } : Room)) (fun a U => a = #[(.int (8 : Int32)), (.int p2)] ∧ Z.Warmed39 U.vm ∧ U.heap = h0) (fun _ _ _ _ _ => True) (fun _ U o U' => ∃ v L, o = .returned v ∧ QP (.int (own_days (8 : Int32) p2)) h0 n0 v U'.heap L ∧ FrameEnd U o U' L ({ frames := 0, cells := 0, slots := 0, locals := 0 } : Room).cells ({ frames := 0, cells := 0, slots := 0, locals := 0 } : Room).slots) := by
  refine MetFree.of_bodySF (plainFor_of_name own_pn0) hisR ?_
  intro p e s m args below meth c s₁ Bd hml0 hP hK
  obtain ⟨rfl, hZ, hh⟩ := hP
  have hx := Bd.exec
  have hby := Bd.bytes
  have hml : c.maxLocals = 2 := hml0
  have hown : s.vm.findClass "com/example/datewarden/datewarden/Gregorian" = some m.cls := findClass_of_methodNamed Bd.named
  have hnm := (name_of_methodNamed Bd.named Bd.method).1
  have X0 : Stand p l e ({ frames := 0, cells := 0, slots := 0, locals := 0 } : Room) s m #[(.int (8 : Int32)), (.int p2)] below meth c s₁ [] 0 0 := Stand.of_body Bd
  have e0 : s₁.heap = h0 := by rw [← hh, Bd.state]; rfl
  have N0 := Fr.nil n0
  have pre0 : ∀ t, Steps p.tables e below (s₁.setTop (mkF m 0 #[.val (.int (8 : Int32)), .val (.int p2)] [])) t → Steps p.tables e below (s₁.setTop (entryFrame m #[(.int (8 : Int32)), (.int p2)] 2)) t := fun t k => castTop (own_ef_rm1_8 m (8 : Int32) p2) k
  have pre1 : ∀ t, Steps p.tables e below (s₁.setTop (mkF m 73 #[.val (.int (8 : Int32)), .val (.int p2)] [(.int (31 : Int32))])) t → Steps p.tables e below (s₁.setTop (entryFrame m #[(.int (8 : Int32)), (.int p2)] 2)) t := fun t k => pre0 t (by
    show Steps p.tables e below (s₁.setTop (mkF m 0 #[.val (.int (8 : Int32)), .val (.int p2)] [])) _
    refine XS.iloadN X0.here hx rfl (hb hby own_d_prog_21_method_5_code_0) rfl ?_
    show Steps p.tables e below (s₁.setTop (mkF m 1 #[.val (.int (8 : Int32)), .val (.int p2)] [(.int (8 : Int32))])) _
    refine XS.tswIn X0.here hx rfl (pc0 := 1) (pc' := 71) rfl (hb hby own_d_prog_21_method_5_code_1) rfl (o := 70) (by decide) (by decide) (by decide) (by decide) ?_
    show Steps p.tables e below (s₁.setTop (mkF m 71 #[.val (.int (8 : Int32)), .val (.int p2)] [])) _
    refine XS.bipush X0.here hx rfl (hb hby own_d_prog_21_method_5_code_71) ?_
    exact k)
  obtain ⟨fs, hr, hrun, hended, hW, hsame⟩ := X0.leave (v := some (.int (31 : Int32))) (fun h => by rw [Bd.returns] at h; cases h)
  refine ⟨_, _, pre1 _ ?_, hrun, hended, _, _, rfl, ?_, ⟨_, rfl⟩, hW, hsame.mono (by decide) (by decide)⟩
  · show Steps p.tables e below (s₁.setTop (mkF m 73 #[.val (.int (8 : Int32)), .val (.int p2)] [(.int (31 : Int32))])) _
    exact retI X0 hx Bd.returns (hb hby own_d_prog_21_method_5_code_73) hr
  · show QP (.int (own_days (8 : Int32) p2)) h0 n0 _ s₁.heap _
    rw [e0]
    exact ⟨by simp [own_days], N0, rfl⟩
theorem own_ef_rm1_9 (m : MethodId) (y0 : Int32) (y1 : Int32) : entryFrame m #[(.int y0), (.int y1)] 2 = mkF m 0 #[.val (.int y0), .val (.int y1)] [] := by first | (simp [entryFrame, mkF, argsToLocals, Value.category]; done) | rfl
set_option maxRecDepth 65536 in
set_option maxHeartbeats 40000000 in
theorem rm1_9 (l : Launch) (Z : State) (a0 : Array Value) (hw : ∀ d ∈ tables_1, d.before a0 Z = true) (ws : List Jvm.Cond) (p2 : Int32) (h0 : Heap) (n0 : Nat) (Z0 : n0 ≤ h0.size)  :
    MetFree l (⟨"com/example/datewarden/datewarden/Gregorian", "daysInMonth", "(IZ)I"⟩ : MethodName) (head1 (Jvm.Cond.code (⟨"com/example/datewarden/datewarden/Gregorian", "daysInMonth", "(IZ)I"⟩ : MethodName) prog_21_method_5_code 2 (some .int) :: ws) ({ frames := 0, cells := 0, slots := 0, locals := 0 } : Room)) (fun a U => a = #[(.int (9 : Int32)), (.int p2)] ∧ Z.Warmed39 U.vm ∧ U.heap = h0) (fun _ _ _ _ _ => True) (fun _ U o U' => ∃ v L, o = .returned v ∧ QP (.int (own_days (9 : Int32) p2)) h0 n0 v U'.heap L ∧ FrameEnd U o U' L ({ frames := 0, cells := 0, slots := 0, locals := 0 } : Room).cells ({ frames := 0, cells := 0, slots := 0, locals := 0 } : Room).slots) := by
  refine MetFree.of_bodySF (plainFor_of_name own_pn0) hisR ?_
  intro p e s m args below meth c s₁ Bd hml0 hP hK
  obtain ⟨rfl, hZ, hh⟩ := hP
  have hx := Bd.exec
  have hby := Bd.bytes
  have hml : c.maxLocals = 2 := hml0
  have hown : s.vm.findClass "com/example/datewarden/datewarden/Gregorian" = some m.cls := findClass_of_methodNamed Bd.named
  have hnm := (name_of_methodNamed Bd.named Bd.method).1
  have X0 : Stand p l e ({ frames := 0, cells := 0, slots := 0, locals := 0 } : Room) s m #[(.int (9 : Int32)), (.int p2)] below meth c s₁ [] 0 0 := Stand.of_body Bd
  have e0 : s₁.heap = h0 := by rw [← hh, Bd.state]; rfl
  have N0 := Fr.nil n0
  have pre0 : ∀ t, Steps p.tables e below (s₁.setTop (mkF m 0 #[.val (.int (9 : Int32)), .val (.int p2)] [])) t → Steps p.tables e below (s₁.setTop (entryFrame m #[(.int (9 : Int32)), (.int p2)] 2)) t := fun t k => castTop (own_ef_rm1_9 m (9 : Int32) p2) k
  have pre1 : ∀ t, Steps p.tables e below (s₁.setTop (mkF m 70 #[.val (.int (9 : Int32)), .val (.int p2)] [(.int (30 : Int32))])) t → Steps p.tables e below (s₁.setTop (entryFrame m #[(.int (9 : Int32)), (.int p2)] 2)) t := fun t k => pre0 t (by
    show Steps p.tables e below (s₁.setTop (mkF m 0 #[.val (.int (9 : Int32)), .val (.int p2)] [])) _
    refine XS.iloadN X0.here hx rfl (hb hby own_d_prog_21_method_5_code_0) rfl ?_
    show Steps p.tables e below (s₁.setTop (mkF m 1 #[.val (.int (9 : Int32)), .val (.int p2)] [(.int (9 : Int32))])) _
    refine XS.tswIn X0.here hx rfl (pc0 := 1) (pc' := 68) rfl (hb hby own_d_prog_21_method_5_code_1) rfl (o := 67) (by decide) (by decide) (by decide) (by decide) ?_
    show Steps p.tables e below (s₁.setTop (mkF m 68 #[.val (.int (9 : Int32)), .val (.int p2)] [])) _
    refine XS.bipush X0.here hx rfl (hb hby own_d_prog_21_method_5_code_68) ?_
    exact k)
  obtain ⟨fs, hr, hrun, hended, hW, hsame⟩ := X0.leave (v := some (.int (30 : Int32))) (fun h => by rw [Bd.returns] at h; cases h)
  refine ⟨_, _, pre1 _ ?_, hrun, hended, _, _, rfl, ?_, ⟨_, rfl⟩, hW, hsame.mono (by decide) (by decide)⟩
  · show Steps p.tables e below (s₁.setTop (mkF m 70 #[.val (.int (9 : Int32)), .val (.int p2)] [(.int (30 : Int32))])) _
    exact retI X0 hx Bd.returns (hb hby own_d_prog_21_method_5_code_70) hr
  · show QP (.int (own_days (9 : Int32) p2)) h0 n0 _ s₁.heap _
    rw [e0]
    exact ⟨by simp [own_days], N0, rfl⟩
theorem own_ef_rm1_10 (m : MethodId) (y0 : Int32) (y1 : Int32) : entryFrame m #[(.int y0), (.int y1)] 2 = mkF m 0 #[.val (.int y0), .val (.int y1)] [] := by first | (simp [entryFrame, mkF, argsToLocals, Value.category]; done) | rfl
set_option maxRecDepth 65536 in
set_option maxHeartbeats 40000000 in
theorem rm1_10 (l : Launch) (Z : State) (a0 : Array Value) (hw : ∀ d ∈ tables_1, d.before a0 Z = true) (ws : List Jvm.Cond) (p2 : Int32) (h0 : Heap) (n0 : Nat) (Z0 : n0 ≤ h0.size)  :
    MetFree l (⟨"com/example/datewarden/datewarden/Gregorian", "daysInMonth", "(IZ)I"⟩ : MethodName) (head1 (Jvm.Cond.code (⟨"com/example/datewarden/datewarden/Gregorian", "daysInMonth", "(IZ)I"⟩ : MethodName) prog_21_method_5_code 2 (some .int) :: ws) ({ frames := 0, cells := 0, slots := 0, locals := 0 } : Room)) (fun a U => a = #[(.int (10 : Int32)), (.int p2)] ∧ Z.Warmed39 U.vm ∧ U.heap = h0) (fun _ _ _ _ _ => True) (fun _ U o U' => ∃ v L, o = .returned v ∧ QP (.int (own_days (10 : Int32) p2)) h0 n0 v U'.heap L ∧ FrameEnd U o U' L ({ frames := 0, cells := 0, slots := 0, locals := 0 } : Room).cells ({ frames := 0, cells := 0, slots := 0, locals := 0 } : Room).slots) := by
  refine MetFree.of_bodySF (plainFor_of_name own_pn0) hisR ?_
  intro p e s m args below meth c s₁ Bd hml0 hP hK
  obtain ⟨rfl, hZ, hh⟩ := hP
  have hx := Bd.exec
  have hby := Bd.bytes
  have hml : c.maxLocals = 2 := hml0
  have hown : s.vm.findClass "com/example/datewarden/datewarden/Gregorian" = some m.cls := findClass_of_methodNamed Bd.named
  have hnm := (name_of_methodNamed Bd.named Bd.method).1
  have X0 : Stand p l e ({ frames := 0, cells := 0, slots := 0, locals := 0 } : Room) s m #[(.int (10 : Int32)), (.int p2)] below meth c s₁ [] 0 0 := Stand.of_body Bd
  have e0 : s₁.heap = h0 := by rw [← hh, Bd.state]; rfl
  have N0 := Fr.nil n0
  have pre0 : ∀ t, Steps p.tables e below (s₁.setTop (mkF m 0 #[.val (.int (10 : Int32)), .val (.int p2)] [])) t → Steps p.tables e below (s₁.setTop (entryFrame m #[(.int (10 : Int32)), (.int p2)] 2)) t := fun t k => castTop (own_ef_rm1_10 m (10 : Int32) p2) k
  have pre1 : ∀ t, Steps p.tables e below (s₁.setTop (mkF m 73 #[.val (.int (10 : Int32)), .val (.int p2)] [(.int (31 : Int32))])) t → Steps p.tables e below (s₁.setTop (entryFrame m #[(.int (10 : Int32)), (.int p2)] 2)) t := fun t k => pre0 t (by
    show Steps p.tables e below (s₁.setTop (mkF m 0 #[.val (.int (10 : Int32)), .val (.int p2)] [])) _
    refine XS.iloadN X0.here hx rfl (hb hby own_d_prog_21_method_5_code_0) rfl ?_
    show Steps p.tables e below (s₁.setTop (mkF m 1 #[.val (.int (10 : Int32)), .val (.int p2)] [(.int (10 : Int32))])) _
    refine XS.tswIn X0.here hx rfl (pc0 := 1) (pc' := 71) rfl (hb hby own_d_prog_21_method_5_code_1) rfl (o := 70) (by decide) (by decide) (by decide) (by decide) ?_
    show Steps p.tables e below (s₁.setTop (mkF m 71 #[.val (.int (10 : Int32)), .val (.int p2)] [])) _
    refine XS.bipush X0.here hx rfl (hb hby own_d_prog_21_method_5_code_71) ?_
    exact k)
  obtain ⟨fs, hr, hrun, hended, hW, hsame⟩ := X0.leave (v := some (.int (31 : Int32))) (fun h => by rw [Bd.returns] at h; cases h)
  refine ⟨_, _, pre1 _ ?_, hrun, hended, _, _, rfl, ?_, ⟨_, rfl⟩, hW, hsame.mono (by decide) (by decide)⟩
  · show Steps p.tables e below (s₁.setTop (mkF m 73 #[.val (.int (10 : Int32)), .val (.int p2)] [(.int (31 : Int32))])) _
    exact retI X0 hx Bd.returns (hb hby own_d_prog_21_method_5_code_73) hr
  · show QP (.int (own_days (10 : Int32) p2)) h0 n0 _ s₁.heap _
    rw [e0]
    exact ⟨by simp [own_days], N0, rfl⟩
theorem own_ef_rm1_11 (m : MethodId) (y0 : Int32) (y1 : Int32) : entryFrame m #[(.int y0), (.int y1)] 2 = mkF m 0 #[.val (.int y0), .val (.int y1)] [] := by first | (simp [entryFrame, mkF, argsToLocals, Value.category]; done) | rfl
set_option maxRecDepth 65536 in
set_option maxHeartbeats 40000000 in
theorem rm1_11 (l : Launch) (Z : State) (a0 : Array Value) (hw : ∀ d ∈ tables_1, d.before a0 Z = true) (ws : List Jvm.Cond) (p2 : Int32) (h0 : Heap) (n0 : Nat) (Z0 : n0 ≤ h0.size)  :
    MetFree l (⟨"com/example/datewarden/datewarden/Gregorian", "daysInMonth", "(IZ)I"⟩ : MethodName) (head1 (Jvm.Cond.code (⟨"com/example/datewarden/datewarden/Gregorian", "daysInMonth", "(IZ)I"⟩ : MethodName) prog_21_method_5_code 2 (some .int) :: ws) ({ frames := 0, cells := 0, slots := 0, locals := 0 } : Room)) (fun a U => a = #[(.int (11 : Int32)), (.int p2)] ∧ Z.Warmed39 U.vm ∧ U.heap = h0) (fun _ _ _ _ _ => True) (fun _ U o U' => ∃ v L, o = .returned v ∧ QP (.int (own_days (11 : Int32) p2)) h0 n0 v U'.heap L ∧ FrameEnd U o U' L ({ frames := 0, cells := 0, slots := 0, locals := 0 } : Room).cells ({ frames := 0, cells := 0, slots := 0, locals := 0 } : Room).slots) := by
  refine MetFree.of_bodySF (plainFor_of_name own_pn0) hisR ?_
  intro p e s m args below meth c s₁ Bd hml0 hP hK
  obtain ⟨rfl, hZ, hh⟩ := hP
  have hx := Bd.exec
  have hby := Bd.bytes
  have hml : c.maxLocals = 2 := hml0
  have hown : s.vm.findClass "com/example/datewarden/datewarden/Gregorian" = some m.cls := findClass_of_methodNamed Bd.named
  have hnm := (name_of_methodNamed Bd.named Bd.method).1
  have X0 : Stand p l e ({ frames := 0, cells := 0, slots := 0, locals := 0 } : Room) s m #[(.int (11 : Int32)), (.int p2)] below meth c s₁ [] 0 0 := Stand.of_body Bd
  have e0 : s₁.heap = h0 := by rw [← hh, Bd.state]; rfl
  have N0 := Fr.nil n0
  have pre0 : ∀ t, Steps p.tables e below (s₁.setTop (mkF m 0 #[.val (.int (11 : Int32)), .val (.int p2)] [])) t → Steps p.tables e below (s₁.setTop (entryFrame m #[(.int (11 : Int32)), (.int p2)] 2)) t := fun t k => castTop (own_ef_rm1_11 m (11 : Int32) p2) k
  have pre1 : ∀ t, Steps p.tables e below (s₁.setTop (mkF m 70 #[.val (.int (11 : Int32)), .val (.int p2)] [(.int (30 : Int32))])) t → Steps p.tables e below (s₁.setTop (entryFrame m #[(.int (11 : Int32)), (.int p2)] 2)) t := fun t k => pre0 t (by
    show Steps p.tables e below (s₁.setTop (mkF m 0 #[.val (.int (11 : Int32)), .val (.int p2)] [])) _
    refine XS.iloadN X0.here hx rfl (hb hby own_d_prog_21_method_5_code_0) rfl ?_
    show Steps p.tables e below (s₁.setTop (mkF m 1 #[.val (.int (11 : Int32)), .val (.int p2)] [(.int (11 : Int32))])) _
    refine XS.tswIn X0.here hx rfl (pc0 := 1) (pc' := 68) rfl (hb hby own_d_prog_21_method_5_code_1) rfl (o := 67) (by decide) (by decide) (by decide) (by decide) ?_
    show Steps p.tables e below (s₁.setTop (mkF m 68 #[.val (.int (11 : Int32)), .val (.int p2)] [])) _
    refine XS.bipush X0.here hx rfl (hb hby own_d_prog_21_method_5_code_68) ?_
    exact k)
  obtain ⟨fs, hr, hrun, hended, hW, hsame⟩ := X0.leave (v := some (.int (30 : Int32))) (fun h => by rw [Bd.returns] at h; cases h)
  refine ⟨_, _, pre1 _ ?_, hrun, hended, _, _, rfl, ?_, ⟨_, rfl⟩, hW, hsame.mono (by decide) (by decide)⟩
  · show Steps p.tables e below (s₁.setTop (mkF m 70 #[.val (.int (11 : Int32)), .val (.int p2)] [(.int (30 : Int32))])) _
    exact retI X0 hx Bd.returns (hb hby own_d_prog_21_method_5_code_70) hr
  · show QP (.int (own_days (11 : Int32) p2)) h0 n0 _ s₁.heap _
    rw [e0]
    exact ⟨by simp [own_days], N0, rfl⟩
theorem own_ef_rm1_12 (m : MethodId) (y0 : Int32) (y1 : Int32) : entryFrame m #[(.int y0), (.int y1)] 2 = mkF m 0 #[.val (.int y0), .val (.int y1)] [] := by first | (simp [entryFrame, mkF, argsToLocals, Value.category]; done) | rfl
set_option maxRecDepth 65536 in
set_option maxHeartbeats 40000000 in
theorem rm1_12 (l : Launch) (Z : State) (a0 : Array Value) (hw : ∀ d ∈ tables_1, d.before a0 Z = true) (ws : List Jvm.Cond) (p2 : Int32) (h0 : Heap) (n0 : Nat) (Z0 : n0 ≤ h0.size)  :
    MetFree l (⟨"com/example/datewarden/datewarden/Gregorian", "daysInMonth", "(IZ)I"⟩ : MethodName) (head1 (Jvm.Cond.code (⟨"com/example/datewarden/datewarden/Gregorian", "daysInMonth", "(IZ)I"⟩ : MethodName) prog_21_method_5_code 2 (some .int) :: ws) ({ frames := 0, cells := 0, slots := 0, locals := 0 } : Room)) (fun a U => a = #[(.int (12 : Int32)), (.int p2)] ∧ Z.Warmed39 U.vm ∧ U.heap = h0) (fun _ _ _ _ _ => True) (fun _ U o U' => ∃ v L, o = .returned v ∧ QP (.int (own_days (12 : Int32) p2)) h0 n0 v U'.heap L ∧ FrameEnd U o U' L ({ frames := 0, cells := 0, slots := 0, locals := 0 } : Room).cells ({ frames := 0, cells := 0, slots := 0, locals := 0 } : Room).slots) := by
  refine MetFree.of_bodySF (plainFor_of_name own_pn0) hisR ?_
  intro p e s m args below meth c s₁ Bd hml0 hP hK
  obtain ⟨rfl, hZ, hh⟩ := hP
  have hx := Bd.exec
  have hby := Bd.bytes
  have hml : c.maxLocals = 2 := hml0
  have hown : s.vm.findClass "com/example/datewarden/datewarden/Gregorian" = some m.cls := findClass_of_methodNamed Bd.named
  have hnm := (name_of_methodNamed Bd.named Bd.method).1
  have X0 : Stand p l e ({ frames := 0, cells := 0, slots := 0, locals := 0 } : Room) s m #[(.int (12 : Int32)), (.int p2)] below meth c s₁ [] 0 0 := Stand.of_body Bd
  have e0 : s₁.heap = h0 := by rw [← hh, Bd.state]; rfl
  have N0 := Fr.nil n0
  have pre0 : ∀ t, Steps p.tables e below (s₁.setTop (mkF m 0 #[.val (.int (12 : Int32)), .val (.int p2)] [])) t → Steps p.tables e below (s₁.setTop (entryFrame m #[(.int (12 : Int32)), (.int p2)] 2)) t := fun t k => castTop (own_ef_rm1_12 m (12 : Int32) p2) k
  have pre1 : ∀ t, Steps p.tables e below (s₁.setTop (mkF m 73 #[.val (.int (12 : Int32)), .val (.int p2)] [(.int (31 : Int32))])) t → Steps p.tables e below (s₁.setTop (entryFrame m #[(.int (12 : Int32)), (.int p2)] 2)) t := fun t k => pre0 t (by
    show Steps p.tables e below (s₁.setTop (mkF m 0 #[.val (.int (12 : Int32)), .val (.int p2)] [])) _
    refine XS.iloadN X0.here hx rfl (hb hby own_d_prog_21_method_5_code_0) rfl ?_
    show Steps p.tables e below (s₁.setTop (mkF m 1 #[.val (.int (12 : Int32)), .val (.int p2)] [(.int (12 : Int32))])) _
    refine XS.tswOut X0.here hx rfl (pc0 := 1) (pc' := 71) rfl (hb hby own_d_prog_21_method_5_code_1) rfl (by decide) (by decide) (by decide) ?_
    show Steps p.tables e below (s₁.setTop (mkF m 71 #[.val (.int (12 : Int32)), .val (.int p2)] [])) _
    refine XS.bipush X0.here hx rfl (hb hby own_d_prog_21_method_5_code_71) ?_
    exact k)
  obtain ⟨fs, hr, hrun, hended, hW, hsame⟩ := X0.leave (v := some (.int (31 : Int32))) (fun h => by rw [Bd.returns] at h; cases h)
  refine ⟨_, _, pre1 _ ?_, hrun, hended, _, _, rfl, ?_, ⟨_, rfl⟩, hW, hsame.mono (by decide) (by decide)⟩
  · show Steps p.tables e below (s₁.setTop (mkF m 73 #[.val (.int (12 : Int32)), .val (.int p2)] [(.int (31 : Int32))])) _
    exact retI X0 hx Bd.returns (hb hby own_d_prog_21_method_5_code_73) hr
  · show QP (.int (own_days (12 : Int32) p2)) h0 n0 _ s₁.heap _
    rw [e0]
    exact ⟨by simp [own_days], N0, rfl⟩
set_option maxRecDepth 65536 in
set_option maxHeartbeats 40000000 in
theorem rm1 (l : Launch) (Z : State) (a0 : Array Value) (hw : ∀ d ∈ tables_1, d.before a0 Z = true) (ws : List Jvm.Cond) (p1 p2 : Int32) (h0 : Heap) (n0 : Nat) (Z0 : n0 ≤ h0.size) (hm : own_mon p1) :
    MetFree l (⟨"com/example/datewarden/datewarden/Gregorian", "daysInMonth", "(IZ)I"⟩ : MethodName) (head1 (Jvm.Cond.code (⟨"com/example/datewarden/datewarden/Gregorian", "daysInMonth", "(IZ)I"⟩ : MethodName) prog_21_method_5_code 2 (some .int) :: ws) ({ frames := 0, cells := 0, slots := 0, locals := 0 } : Room)) (fun a U => a = #[(.int p1), (.int p2)] ∧ Z.Warmed39 U.vm ∧ U.heap = h0) (fun _ _ _ _ _ => True) (fun _ U o U' => ∃ v L, o = .returned v ∧ QP (.int (own_days p1 p2)) h0 n0 v U'.heap L ∧ FrameEnd U o U' L ({ frames := 0, cells := 0, slots := 0, locals := 0 } : Room).cells ({ frames := 0, cells := 0, slots := 0, locals := 0 } : Room).slots) := by
  rcases hm with rfl | rfl | rfl | rfl | rfl | rfl | rfl | rfl | rfl | rfl | rfl | rfl
  · exact rm1_1 l Z a0 hw ws p2 h0 n0 Z0
  · exact rm1_2 l Z a0 hw ws p2 h0 n0 Z0
  · exact rm1_3 l Z a0 hw ws p2 h0 n0 Z0
  · exact rm1_4 l Z a0 hw ws p2 h0 n0 Z0
  · exact rm1_5 l Z a0 hw ws p2 h0 n0 Z0
  · exact rm1_6 l Z a0 hw ws p2 h0 n0 Z0
  · exact rm1_7 l Z a0 hw ws p2 h0 n0 Z0
  · exact rm1_8 l Z a0 hw ws p2 h0 n0 Z0
  · exact rm1_9 l Z a0 hw ws p2 h0 n0 Z0
  · exact rm1_10 l Z a0 hw ws p2 h0 n0 Z0
  · exact rm1_11 l Z a0 hw ws p2 h0 n0 Z0
  · exact rm1_12 l Z a0 hw ws p2 h0 n0 Z0
theorem own_ef_rm2 (m : MethodId) (y0 : Int32) (y1 : Int32) : entryFrame m #[(.int y0), (.int y1)] 2 = mkF m 0 #[.val (.int y0), .val (.int y1)] [] := by first | (simp [entryFrame, mkF, argsToLocals, Value.category]; done) | rfl
set_option maxRecDepth 65536 in
set_option maxHeartbeats 40000000 in
theorem rm2 (l : Launch) (Z : State) (a0 : Array Value) (hw : ∀ d ∈ tables_1, d.before a0 Z = true) (ws : List Jvm.Cond) (p1 p2 : Int32) (h0 : Heap) (n0 : Nat) (Z0 : n0 ≤ h0.size)  :
    MetFree l (⟨"com/example/datewarden/datewarden/GregorianDaysInMonthPinLaw", "expected", "(IZ)I"⟩ : MethodName) (head1 (Jvm.Cond.code (⟨"com/example/datewarden/datewarden/GregorianDaysInMonthPinLaw", "expected", "(IZ)I"⟩ : MethodName) method_2_code 2 (some .int) :: ws) ({ frames := 0, cells := 0, slots := 0, locals := 0 } : Room)) (fun a U => a = #[(.int p1), (.int p2)] ∧ Z.Warmed39 U.vm ∧ U.heap = h0) (fun _ _ _ _ _ => True) (fun _ U o U' => ∃ v L, o = .returned v ∧ QP (.int (own_exp p1 p2)) h0 n0 v U'.heap L ∧ FrameEnd U o U' L ({ frames := 0, cells := 0, slots := 0, locals := 0 } : Room).cells ({ frames := 0, cells := 0, slots := 0, locals := 0 } : Room).slots) := by
  refine MetFree.of_bodySF (plainFor_of_name own_pn1) hisR ?_
  intro p e s m args below meth c s₁ Bd hml0 hP hK
  obtain ⟨rfl, hZ, hh⟩ := hP
  have hx := Bd.exec
  have hby := Bd.bytes
  have hml : c.maxLocals = 2 := hml0
  have hown : s.vm.findClass "com/example/datewarden/datewarden/GregorianDaysInMonthPinLaw" = some m.cls := findClass_of_methodNamed Bd.named
  have hnm := (name_of_methodNamed Bd.named Bd.method).1
  have X0 : Stand p l e ({ frames := 0, cells := 0, slots := 0, locals := 0 } : Room) s m #[(.int p1), (.int p2)] below meth c s₁ [] 0 0 := Stand.of_body Bd
  have e0 : s₁.heap = h0 := by rw [← hh, Bd.state]; rfl
  have N0 := Fr.nil n0
  have pre0 : ∀ t, Steps p.tables e below (s₁.setTop (mkF m 0 #[.val (.int p1), .val (.int p2)] [])) t → Steps p.tables e below (s₁.setTop (entryFrame m #[(.int p1), (.int p2)] 2)) t := fun t k => castTop (own_ef_rm2 m p1 p2) k
  have pre1 : ∀ t, Steps p.tables e below (s₁.setTop (mkF m 2 #[.val (.int p1), .val (.int p2)] [(.int (2 : Int32)), (.int p1)])) t → Steps p.tables e below (s₁.setTop (entryFrame m #[(.int p1), (.int p2)] 2)) t := fun t k => pre0 t (by
    show Steps p.tables e below (s₁.setTop (mkF m 0 #[.val (.int p1), .val (.int p2)] [])) _
    refine XS.iloadN X0.here hx rfl (hb hby own_d_method_2_code_0) rfl ?_
    show Steps p.tables e below (s₁.setTop (mkF m 1 #[.val (.int p1), .val (.int p2)] [(.int p1)])) _
    refine XS.iconst X0.here hx rfl (hb hby own_d_method_2_code_1) ?_
    exact k)
  by_cases h2 : p1 = (2 : Int32)
  · have pre2 : ∀ t, Steps p.tables e below (s₁.setTop (mkF m 6 #[.val (.int p1), .val (.int p2)] [(.int p2)])) t → Steps p.tables e below (s₁.setTop (entryFrame m #[(.int p1), (.int p2)] 2)) t := fun t k => pre1 t (by
      show Steps p.tables e below (s₁.setTop (mkF m 2 #[.val (.int p1), .val (.int p2)] [(.int (2 : Int32)), (.int p1)])) _
      refine XS.icmpNo X0.here hx rfl (hb hby own_d_method_2_code_2) rfl (teq (h2 : p1 = (2 : Int32))).2 ?_
      show Steps p.tables e below (s₁.setTop (mkF m 5 #[.val (.int p1), .val (.int p2)] [])) _
      refine XS.iloadN X0.here hx rfl (hb hby own_d_method_2_code_5) rfl ?_
      exact k)
    by_cases hc : p2 = (0 : Int32)
    · have pre3 : ∀ t, Steps p.tables e below (s₁.setTop (mkF m 14 #[.val (.int p1), .val (.int p2)] [(.int (28 : Int32))])) t → Steps p.tables e below (s₁.setTop (entryFrame m #[(.int p1), (.int p2)] 2)) t := fun t k => pre2 t (by
        show Steps p.tables e below (s₁.setTop (mkF m 6 #[.val (.int p1), .val (.int p2)] [(.int p2)])) _
        refine XS.ifYes X0.here hx rfl (pc0 := 6) (pc' := 12) rfl (hb hby own_d_method_2_code_6) rfl ((if0 _ _).trans (teq (hc : p2 = (0 : Int32))).1) (by decide) (by decide) ?_
        show Steps p.tables e below (s₁.setTop (mkF m 12 #[.val (.int p1), .val (.int p2)] [])) _
        refine XS.bipush X0.here hx rfl (hb hby own_d_method_2_code_12) ?_
        exact k)
      obtain ⟨fs, hr, hrun, hended, hW, hsame⟩ := X0.leave (v := some (.int (28 : Int32))) (fun h => by rw [Bd.returns] at h; cases h)
      refine ⟨_, _, pre3 _ ?_, hrun, hended, _, _, rfl, ?_, ⟨_, rfl⟩, hW, hsame.mono (by decide) (by decide)⟩
      · show Steps p.tables e below (s₁.setTop (mkF m 14 #[.val (.int p1), .val (.int p2)] [(.int (28 : Int32))])) _
        exact retI X0 hx Bd.returns (hb hby own_d_method_2_code_14) hr
      · show QP (.int (own_exp p1 p2)) h0 n0 _ s₁.heap _
        rw [e0]
        exact ⟨by simp [own_exp, h2, hc], N0, rfl⟩
    · have pre4 : ∀ t, Steps p.tables e below (s₁.setTop (mkF m 11 #[.val (.int p1), .val (.int p2)] [(.int (29 : Int32))])) t → Steps p.tables e below (s₁.setTop (entryFrame m #[(.int p1), (.int p2)] 2)) t := fun t k => pre2 t (by
        show Steps p.tables e below (s₁.setTop (mkF m 6 #[.val (.int p1), .val (.int p2)] [(.int p2)])) _
        refine XS.ifNo X0.here hx rfl (hb hby own_d_method_2_code_6) rfl ((if0 _ _).trans (feq (hc : ¬ (p2 = (0 : Int32)))).1) ?_
        show Steps p.tables e below (s₁.setTop (mkF m 9 #[.val (.int p1), .val (.int p2)] [])) _
        refine XS.bipush X0.here hx rfl (hb hby own_d_method_2_code_9) ?_
        exact k)
      obtain ⟨fs, hr, hrun, hended, hW, hsame⟩ := X0.leave (v := some (.int (29 : Int32))) (fun h => by rw [Bd.returns] at h; cases h)
      refine ⟨_, _, pre4 _ ?_, hrun, hended, _, _, rfl, ?_, ⟨_, rfl⟩, hW, hsame.mono (by decide) (by decide)⟩
      · show Steps p.tables e below (s₁.setTop (mkF m 11 #[.val (.int p1), .val (.int p2)] [(.int (29 : Int32))])) _
        exact retI X0 hx Bd.returns (hb hby own_d_method_2_code_11) hr
      · show QP (.int (own_exp p1 p2)) h0 n0 _ s₁.heap _
        rw [e0]
        exact ⟨by simp [own_exp, h2, hc], N0, rfl⟩
  · have pre5 : ∀ t, Steps p.tables e below (s₁.setTop (mkF m 25 #[.val (.int p1), .val (.int p2)] [(.int ((30 : Int32) + ((p1 ^^^ (p1 >>> ((3 : Int32) &&& 31))) &&& (1 : Int32))))])) t → Steps p.tables e below (s₁.setTop (entryFrame m #[(.int p1), (.int p2)] 2)) t := fun t k => pre1 t (by
      show Steps p.tables e below (s₁.setTop (mkF m 2 #[.val (.int p1), .val (.int p2)] [(.int (2 : Int32)), (.int p1)])) _
      refine XS.icmpYes X0.here hx rfl (pc0 := 2) (pc' := 15) rfl (hb hby own_d_method_2_code_2) rfl (feq (h2 : ¬ (p1 = (2 : Int32)))).2 (by decide) (by decide) ?_
      show Steps p.tables e below (s₁.setTop (mkF m 15 #[.val (.int p1), .val (.int p2)] [])) _
      refine XS.bipush X0.here hx rfl (hb hby own_d_method_2_code_15) ?_
      show Steps p.tables e below (s₁.setTop (mkF m 17 #[.val (.int p1), .val (.int p2)] [(.int (30 : Int32))])) _
      refine XS.iloadN X0.here hx rfl (hb hby own_d_method_2_code_17) rfl ?_
      show Steps p.tables e below (s₁.setTop (mkF m 18 #[.val (.int p1), .val (.int p2)] [(.int p1), (.int (30 : Int32))])) _
      refine XS.iloadN X0.here hx rfl (hb hby own_d_method_2_code_18) rfl ?_
      show Steps p.tables e below (s₁.setTop (mkF m 19 #[.val (.int p1), .val (.int p2)] [(.int p1), (.int p1), (.int (30 : Int32))])) _
      refine XS.iconst X0.here hx rfl (hb hby own_d_method_2_code_19) ?_
      show Steps p.tables e below (s₁.setTop (mkF m 20 #[.val (.int p1), .val (.int p2)] [(.int (3 : Int32)), (.int p1), (.int p1), (.int (30 : Int32))])) _
      refine XS.ishr X0.here hx rfl (hb hby own_d_method_2_code_20) rfl ?_
      show Steps p.tables e below (s₁.setTop (mkF m 21 #[.val (.int p1), .val (.int p2)] [(.int (p1 >>> ((3 : Int32) &&& 31))), (.int p1), (.int (30 : Int32))])) _
      refine XS.ixor X0.here hx rfl (hb hby own_d_method_2_code_21) rfl ?_
      show Steps p.tables e below (s₁.setTop (mkF m 22 #[.val (.int p1), .val (.int p2)] [(.int (p1 ^^^ (p1 >>> ((3 : Int32) &&& 31)))), (.int (30 : Int32))])) _
      refine XS.iconst X0.here hx rfl (hb hby own_d_method_2_code_22) ?_
      show Steps p.tables e below (s₁.setTop (mkF m 23 #[.val (.int p1), .val (.int p2)] [(.int (1 : Int32)), (.int (p1 ^^^ (p1 >>> ((3 : Int32) &&& 31)))), (.int (30 : Int32))])) _
      refine XS.iand X0.here hx rfl (hb hby own_d_method_2_code_23) rfl ?_
      show Steps p.tables e below (s₁.setTop (mkF m 24 #[.val (.int p1), .val (.int p2)] [(.int ((p1 ^^^ (p1 >>> ((3 : Int32) &&& 31))) &&& (1 : Int32))), (.int (30 : Int32))])) _
      refine XS.iadd X0.here hx rfl (hb hby own_d_method_2_code_24) rfl ?_
      exact k)
    obtain ⟨fs, hr, hrun, hended, hW, hsame⟩ := X0.leave (v := some (.int ((30 : Int32) + ((p1 ^^^ (p1 >>> ((3 : Int32) &&& 31))) &&& (1 : Int32))))) (fun h => by rw [Bd.returns] at h; cases h)
    refine ⟨_, _, pre5 _ ?_, hrun, hended, _, _, rfl, ?_, ⟨_, rfl⟩, hW, hsame.mono (by decide) (by decide)⟩
    · show Steps p.tables e below (s₁.setTop (mkF m 25 #[.val (.int p1), .val (.int p2)] [(.int ((30 : Int32) + ((p1 ^^^ (p1 >>> ((3 : Int32) &&& 31))) &&& (1 : Int32))))])) _
      exact retI X0 hx Bd.returns (hb hby own_d_method_2_code_25) hr
    · show QP (.int (own_exp p1 p2)) h0 n0 _ s₁.heap _
      rw [e0]
      exact ⟨by rw [own_exp, if_neg h2], N0, rfl⟩
theorem own_ef_rm0 (m : MethodId) (y0 : Int32) (y1 : Int32) : entryFrame m #[(.int y0), (.int y1)] maxLocals = mkF m 0 #[.val (.int y0), .val (.int y1), .unset, .unset, .unset] [] := by first | (simp [entryFrame, mkF, argsToLocals, Value.category, maxLocals]; done) | rfl
set_option maxRecDepth 65536 in
set_option maxHeartbeats 40000000 in
theorem rm0 (l : Launch) (Z : State) (a0 : Array Value) (hw : ∀ d ∈ tables_1, d.before a0 Z = true) (ws : List Jvm.Cond) (p1 p2 : Int32) (h0 : Heap) (n0 : Nat) (Z0 : n0 ≤ h0.size)  :
    MetFree l x (head1 (Jvm.Cond.code x code maxLocals ret :: ws) room_1) (fun a U => a = #[(.int p1), (.int p2)] ∧ Z.Warmed39 U.vm ∧ U.heap = h0) (fun _ _ _ _ _ => True) (fun _ U o U' => ∃ v L, o = .returned v ∧ QL n0 v U'.heap L ∧ FrameEnd U o U' L 0 0) := by
  refine MetFree.of_bodySF (plainFor_of_name own_pn1) hisR ?_
  intro p e s m args below meth c s₁ Bd hml0 hP hK
  obtain ⟨rfl, hZ, hh⟩ := hP
  have hx := Bd.exec
  have hby := Bd.bytes
  have hml : c.maxLocals = 5 := hml0
  have hown : s.vm.findClass "com/example/datewarden/datewarden/GregorianDaysInMonthPinLaw" = some m.cls := findClass_of_methodNamed Bd.named
  have hnm := (name_of_methodNamed Bd.named Bd.method).1
  have X0 : Stand p l e room_1 s m #[(.int p1), (.int p2)] below meth c s₁ [] 0 0 := Stand.of_body Bd
  have e0 : s₁.heap = h0 := by rw [← hh, Bd.state]; rfl
  have N0 := Fr.nil n0
  have pre0 : ∀ t, Steps p.tables e below (s₁.setTop (mkF m 0 #[.val (.int p1), .val (.int p2), .unset, .unset, .unset] [])) t → Steps p.tables e below (s₁.setTop (entryFrame m #[(.int p1), (.int p2)] maxLocals)) t := fun t k => castTop (own_ef_rm0 m p1 p2) k
  have hmon := own_month p1
  have pre1 : ∀ t, Steps p.tables e below (s₁.setTop (mkF m 9 #[.val (.int p1), .val (.int p2), .unset, .unset, .unset] [(.int ((1 : Int32) + ((p1 &&& (2147483647 : Int32)) % (12 : Int32))))])) t → Steps p.tables e below (s₁.setTop (entryFrame m #[(.int p1), (.int p2)] maxLocals)) t := fun t k => pre0 t (by
    show Steps p.tables e below (s₁.setTop (mkF m 0 #[.val (.int p1), .val (.int p2), .unset, .unset, .unset] [])) _
    refine XS.iconst X0.here hx rfl (hb hby at_0) ?_
    show Steps p.tables e below (s₁.setTop (mkF m 1 #[.val (.int p1), .val (.int p2), .unset, .unset, .unset] [(.int (1 : Int32))])) _
    refine XS.iloadN X0.here hx rfl (hb hby at_1) rfl ?_
    show Steps p.tables e below (s₁.setTop (mkF m 2 #[.val (.int p1), .val (.int p2), .unset, .unset, .unset] [(.int p1), (.int (1 : Int32))])) _
    refine X0.ldcInt hx hown (mvT hZ (hw _ (List.mem_of_getElem? (i := 0) rfl))) (g := (mkF m 2 #[.val (.int p1), .val (.int p2), .unset, .unset, .unset] [(.int p1), (.int (1 : Int32))])) rfl (hb hby at_2) _ ?_
    show Steps p.tables e below (s₁.setTop (mkF m 4 #[.val (.int p1), .val (.int p2), .unset, .unset, .unset] [(.int (2147483647 : Int32)), (.int p1), (.int (1 : Int32))])) _
    refine XS.iand X0.here hx rfl (hb hby at_4) rfl ?_
    show Steps p.tables e below (s₁.setTop (mkF m 5 #[.val (.int p1), .val (.int p2), .unset, .unset, .unset] [(.int (p1 &&& (2147483647 : Int32))), (.int (1 : Int32))])) _
    refine XS.bipush X0.here hx rfl (hb hby at_5) ?_
    show Steps p.tables e below (s₁.setTop (mkF m 7 #[.val (.int p1), .val (.int p2), .unset, .unset, .unset] [(.int (12 : Int32)), (.int (p1 &&& (2147483647 : Int32))), (.int (1 : Int32))])) _
    refine iremM X0 hx rfl (hb hby at_7) rfl (by decide) ?_
    show Steps p.tables e below (s₁.setTop (mkF m 8 #[.val (.int p1), .val (.int p2), .unset, .unset, .unset] [(.int ((p1 &&& (2147483647 : Int32)) % (12 : Int32))), (.int (1 : Int32))])) _
    refine XS.iadd X0.here hx rfl (hb hby at_8) rfl ?_
    exact k)
  obtain ⟨mo, h_mo⟩ : ∃ z : Int32, z = ((1 : Int32) + ((p1 &&& (2147483647 : Int32)) % (12 : Int32))) := ⟨_, rfl⟩
  rw [← h_mo] at pre1
  rw [← h_mo] at hmon
  have pre2 : ∀ t, Steps p.tables e below (s₁.setTop (mkF m 13 #[.val (.int p1), .val (.int p2), .val (.int mo), .unset, .unset] [(.int (p2 &&& (1 : Int32)))])) t → Steps p.tables e below (s₁.setTop (entryFrame m #[(.int p1), (.int p2)] maxLocals)) t := fun t k => pre1 t (by
    show Steps p.tables e below (s₁.setTop (mkF m 9 #[.val (.int p1), .val (.int p2), .unset, .unset, .unset] [(.int mo)])) _
    refine XS.istoreN X0.here hx rfl (hb hby at_9) rfl (l' := #[.val (.int p1), .val (.int p2), .val (.int mo), .unset, .unset]) rfl ?_
    show Steps p.tables e below (s₁.setTop (mkF m 10 #[.val (.int p1), .val (.int p2), .val (.int mo), .unset, .unset] [])) _
    refine XS.iloadN X0.here hx rfl (hb hby at_10) rfl ?_
    show Steps p.tables e below (s₁.setTop (mkF m 11 #[.val (.int p1), .val (.int p2), .val (.int mo), .unset, .unset] [(.int p2)])) _
    refine XS.iconst X0.here hx rfl (hb hby at_11) ?_
    show Steps p.tables e below (s₁.setTop (mkF m 12 #[.val (.int p1), .val (.int p2), .val (.int mo), .unset, .unset] [(.int (1 : Int32)), (.int p2)])) _
    refine XS.iand X0.here hx rfl (hb hby at_12) rfl ?_
    exact k)
  by_cases hc : (p2 &&& (1 : Int32)) = (0 : Int32)
  · obtain ⟨_, _, ⟨T3, L3, k3, n3⟩, -, X3, ⟨Lc3, hQ3, l3, y3, z3⟩, st3⟩ := Jvm.LawKit.callS X0 hx (y := (⟨"com/example/datewarden/datewarden/Gregorian", "daysInMonth", "(IZ)I"⟩ : MethodName)) hown (mvT hZ (hw _ (List.mem_of_getElem? (i := 1) rfl))) (mvT hZ (hw _ (List.mem_of_getElem? (i := 2) rfl))) (mvT hZ (hw _ (List.mem_of_getElem? (i := 3) rfl))) (mvT hZ (hw _ (List.mem_of_getElem? (i := 4) rfl))) (by decide) (backOf (W := 0) (rm1 l Z a0 hw [] mo (0 : Int32)  h0 n0 Z0 hmon) hZ (hw _ (List.mem_of_getElem? (i := 4) rfl)) (hw _ (List.mem_of_getElem? (i := 3) rfl)) (by decide) (by decide)) (g := (mkF m 24 #[.val (.int p1), .val (.int p2), .val (.int mo), .val (.int (0 : Int32)), .unset] [(.int (0 : Int32)), (.int mo)])) rfl (by rw [hml]; rfl) (argsL := [(.int mo), (.int (0 : Int32))]) (rest := []) (lenOf own_pd0 rfl) rfl (by show 2 * 0 + _ ≤ _; exact Nat.le_of_eq rfl) (hb hby at_24) (fun _ _ => ⟨rfl, e0, (by decide : 0 + 0 ≤ _), (by decide : 0 + 0 ≤ _)⟩)
    dsimp only [Pt.U, Pt.locs, Pt.cells, Pt.slots] at X3 l3 y3 z3 st3 hQ3
    subst l3 y3 z3
    obtain ⟨rfl, N3q, e3⟩ := hQ3
    have N3 := Fr.app N0 N3q
    obtain ⟨_, _, ⟨T4, L4, k4, n4⟩, -, X4, ⟨Lc4, hQ4, l4, y4, z4⟩, st4⟩ := Jvm.LawKit.callS X3 hx (y := (⟨"com/example/datewarden/datewarden/GregorianDaysInMonthPinLaw", "expected", "(IZ)I"⟩ : MethodName)) hown (mvT hZ (hw _ (List.mem_of_getElem? (i := 5) rfl))) (mvT hZ (hw _ (List.mem_of_getElem? (i := 6) rfl))) (mvT hZ (hw _ (List.mem_of_getElem? (i := 7) rfl))) (mvT hZ (hw _ (List.mem_of_getElem? (i := 8) rfl))) (by decide) (backOf (W := 1) (rm2 l Z a0 hw [] mo (0 : Int32)  h0 n0 Z0 ) hZ (hw _ (List.mem_of_getElem? (i := 8) rfl)) (hw _ (List.mem_of_getElem? (i := 7) rfl)) (by decide) (by decide)) (g := (mkF m 33 #[.val (.int p1), .val (.int p2), .val (.int mo), .val (.int (0 : Int32)), .val (.int (own_days mo (0 : Int32)))] [(.int (0 : Int32)), (.int mo), (.int (own_days mo (0 : Int32)))])) rfl (by rw [hml]; rfl) (argsL := [(.int mo), (.int (0 : Int32))]) (rest := [(.int (own_days mo (0 : Int32)))]) (lenOf own_pd0 rfl) rfl (by show 2 * 0 + _ ≤ _; exact Nat.le_of_eq rfl) (hb hby at_33) (fun _ _ => ⟨rfl, e3, (by decide : 0 + 0 ≤ _), (by decide : 0 + 0 ≤ _)⟩)
    dsimp only [Pt.U, Pt.locs, Pt.cells, Pt.slots] at X4 l4 y4 z4 st4 hQ4
    subst l4 y4 z4
    obtain ⟨rfl, N4q, e4⟩ := hQ4
    have N4 := Fr.app N3 N4q
    have pre5 : ∀ t, Steps p.tables e below (T4.setTop (mkF m 44 #[.val (.int p1), .val (.int p2), .val (.int mo), .val (.int (0 : Int32)), .val (.int (own_days mo (0 : Int32)))] [(.int (1 : Int32))])) t → Steps p.tables e below (s₁.setTop (entryFrame m #[(.int p1), (.int p2)] maxLocals)) t := fun t k => pre2 t (by
      show Steps p.tables e below (s₁.setTop (mkF m 13 #[.val (.int p1), .val (.int p2), .val (.int mo), .unset, .unset] [(.int (p2 &&& (1 : Int32)))])) _
      refine XS.ifYes X0.here hx rfl (pc0 := 13) (pc' := 20) rfl (hb hby at_13) rfl ((if0 _ _).trans (teq (hc : (p2 &&& (1 : Int32)) = (0 : Int32))).1) (by decide) (by decide) ?_
      show Steps p.tables e below (s₁.setTop (mkF m 20 #[.val (.int p1), .val (.int p2), .val (.int mo), .unset, .unset] [])) _
      refine XS.iconst X0.here hx rfl (hb hby at_20) ?_
      show Steps p.tables e below (s₁.setTop (mkF m 21 #[.val (.int p1), .val (.int p2), .val (.int mo), .unset, .unset] [(.int (0 : Int32))])) _
      refine XS.istoreN X0.here hx rfl (hb hby at_21) rfl (l' := #[.val (.int p1), .val (.int p2), .val (.int mo), .val (.int (0 : Int32)), .unset]) rfl ?_
      show Steps p.tables e below (s₁.setTop (mkF m 22 #[.val (.int p1), .val (.int p2), .val (.int mo), .val (.int (0 : Int32)), .unset] [])) _
      refine XS.iloadN X0.here hx rfl (hb hby at_22) rfl ?_
      show Steps p.tables e below (s₁.setTop (mkF m 23 #[.val (.int p1), .val (.int p2), .val (.int mo), .val (.int (0 : Int32)), .unset] [(.int mo)])) _
      refine XS.iloadN X0.here hx rfl (hb hby at_23) rfl ?_
      show Steps p.tables e below (s₁.setTop (mkF m 24 #[.val (.int p1), .val (.int p2), .val (.int mo), .val (.int (0 : Int32)), .unset] [(.int (0 : Int32)), (.int mo)])) _
      refine st3 _ ?_
      show Steps p.tables e below (T3.setTop (mkF m 27 #[.val (.int p1), .val (.int p2), .val (.int mo), .val (.int (0 : Int32)), .unset] [(.int (own_days mo (0 : Int32)))])) _
      refine XS.istore X3.here hx rfl (hb hby at_27) rfl (l' := #[.val (.int p1), .val (.int p2), .val (.int mo), .val (.int (0 : Int32)), .val (.int (own_days mo (0 : Int32)))]) rfl ?_
      show Steps p.tables e below (T3.setTop (mkF m 29 #[.val (.int p1), .val (.int p2), .val (.int mo), .val (.int (0 : Int32)), .val (.int (own_days mo (0 : Int32)))] [])) _
      refine XS.iload X3.here hx rfl (hb hby at_29) rfl ?_
      show Steps p.tables e below (T3.setTop (mkF m 31 #[.val (.int p1), .val (.int p2), .val (.int mo), .val (.int (0 : Int32)), .val (.int (own_days mo (0 : Int32)))] [(.int (own_days mo (0 : Int32)))])) _
      refine XS.iloadN X3.here hx rfl (hb hby at_31) rfl ?_
      show Steps p.tables e below (T3.setTop (mkF m 32 #[.val (.int p1), .val (.int p2), .val (.int mo), .val (.int (0 : Int32)), .val (.int (own_days mo (0 : Int32)))] [(.int mo), (.int (own_days mo (0 : Int32)))])) _
      refine XS.iloadN X3.here hx rfl (hb hby at_32) rfl ?_
      show Steps p.tables e below (T3.setTop (mkF m 33 #[.val (.int p1), .val (.int p2), .val (.int mo), .val (.int (0 : Int32)), .val (.int (own_days mo (0 : Int32)))] [(.int (0 : Int32)), (.int mo), (.int (own_days mo (0 : Int32)))])) _
      refine st4 _ ?_
      show Steps p.tables e below (T4.setTop (mkF m 36 #[.val (.int p1), .val (.int p2), .val (.int mo), .val (.int (0 : Int32)), .val (.int (own_days mo (0 : Int32)))] [(.int (own_exp mo (0 : Int32))), (.int (own_days mo (0 : Int32)))])) _
      refine XS.icmpNo X4.here hx rfl (hb hby at_36) rfl (teq ((own_same hmon) : (own_days mo (0 : Int32)) = (own_exp mo (0 : Int32)))).2 ?_
      show Steps p.tables e below (T4.setTop (mkF m 39 #[.val (.int p1), .val (.int p2), .val (.int mo), .val (.int (0 : Int32)), .val (.int (own_days mo (0 : Int32)))] [])) _
      refine XS.iconst X4.here hx rfl (hb hby at_39) ?_
      show Steps p.tables e below (T4.setTop (mkF m 40 #[.val (.int p1), .val (.int p2), .val (.int mo), .val (.int (0 : Int32)), .val (.int (own_days mo (0 : Int32)))] [(.int (1 : Int32))])) _
      refine XS.goto X4.here hx rfl (pc0 := 40) (pc' := 44) rfl (hb hby at_40) (by decide) (by decide) ?_
      exact k)
    obtain ⟨fs, hr, hrun, hended, hW, hsame⟩ := X4.leave (v := some (.int (nar .boolean (1 : Int32)))) (fun h => by rw [Bd.returns] at h; cases h)
    refine ⟨_, _, pre5 _ ?_, hrun, hended, _, _, rfl, ?_, ⟨_, rfl⟩, hW, hsame.mono (by decide) (by decide)⟩
    · show Steps p.tables e below (T4.setTop (mkF m 44 #[.val (.int p1), .val (.int p2), .val (.int mo), .val (.int (0 : Int32)), .val (.int (own_days mo (0 : Int32)))] [(.int (1 : Int32))])) _
      exact retN X4 hx (t := .boolean) Bd.returns (by simp) (hb hby at_44) hr
    · show QL n0 _ T4.heap _
      rw [e4]
      exact ⟨rfl, N4⟩
  · obtain ⟨_, _, ⟨T6, L6, k6, n6⟩, -, X6, ⟨Lc6, hQ6, l6, y6, z6⟩, st6⟩ := Jvm.LawKit.callS X0 hx (y := (⟨"com/example/datewarden/datewarden/Gregorian", "daysInMonth", "(IZ)I"⟩ : MethodName)) hown (mvT hZ (hw _ (List.mem_of_getElem? (i := 1) rfl))) (mvT hZ (hw _ (List.mem_of_getElem? (i := 2) rfl))) (mvT hZ (hw _ (List.mem_of_getElem? (i := 3) rfl))) (mvT hZ (hw _ (List.mem_of_getElem? (i := 4) rfl))) (by decide) (backOf (W := 0) (rm1 l Z a0 hw [] mo (1 : Int32)  h0 n0 Z0 hmon) hZ (hw _ (List.mem_of_getElem? (i := 4) rfl)) (hw _ (List.mem_of_getElem? (i := 3) rfl)) (by decide) (by decide)) (g := (mkF m 24 #[.val (.int p1), .val (.int p2), .val (.int mo), .val (.int (1 : Int32)), .unset] [(.int (1 : Int32)), (.int mo)])) rfl (by rw [hml]; rfl) (argsL := [(.int mo), (.int (1 : Int32))]) (rest := []) (lenOf own_pd0 rfl) rfl (by show 2 * 0 + _ ≤ _; exact Nat.le_of_eq rfl) (hb hby at_24) (fun _ _ => ⟨rfl, e0, (by decide : 0 + 0 ≤ _), (by decide : 0 + 0 ≤ _)⟩)
    dsimp only [Pt.U, Pt.locs, Pt.cells, Pt.slots] at X6 l6 y6 z6 st6 hQ6
    subst l6 y6 z6
    obtain ⟨rfl, N6q, e6⟩ := hQ6
    have N6 := Fr.app N0 N6q
    obtain ⟨_, _, ⟨T7, L7, k7, n7⟩, -, X7, ⟨Lc7, hQ7, l7, y7, z7⟩, st7⟩ := Jvm.LawKit.callS X6 hx (y := (⟨"com/example/datewarden/datewarden/GregorianDaysInMonthPinLaw", "expected", "(IZ)I"⟩ : MethodName)) hown (mvT hZ (hw _ (List.mem_of_getElem? (i := 5) rfl))) (mvT hZ (hw _ (List.mem_of_getElem? (i := 6) rfl))) (mvT hZ (hw _ (List.mem_of_getElem? (i := 7) rfl))) (mvT hZ (hw _ (List.mem_of_getElem? (i := 8) rfl))) (by decide) (backOf (W := 1) (rm2 l Z a0 hw [] mo (1 : Int32)  h0 n0 Z0 ) hZ (hw _ (List.mem_of_getElem? (i := 8) rfl)) (hw _ (List.mem_of_getElem? (i := 7) rfl)) (by decide) (by decide)) (g := (mkF m 33 #[.val (.int p1), .val (.int p2), .val (.int mo), .val (.int (1 : Int32)), .val (.int (own_days mo (1 : Int32)))] [(.int (1 : Int32)), (.int mo), (.int (own_days mo (1 : Int32)))])) rfl (by rw [hml]; rfl) (argsL := [(.int mo), (.int (1 : Int32))]) (rest := [(.int (own_days mo (1 : Int32)))]) (lenOf own_pd0 rfl) rfl (by show 2 * 0 + _ ≤ _; exact Nat.le_of_eq rfl) (hb hby at_33) (fun _ _ => ⟨rfl, e6, (by decide : 0 + 0 ≤ _), (by decide : 0 + 0 ≤ _)⟩)
    dsimp only [Pt.U, Pt.locs, Pt.cells, Pt.slots] at X7 l7 y7 z7 st7 hQ7
    subst l7 y7 z7
    obtain ⟨rfl, N7q, e7⟩ := hQ7
    have N7 := Fr.app N6 N7q
    have pre8 : ∀ t, Steps p.tables e below (T7.setTop (mkF m 44 #[.val (.int p1), .val (.int p2), .val (.int mo), .val (.int (1 : Int32)), .val (.int (own_days mo (1 : Int32)))] [(.int (1 : Int32))])) t → Steps p.tables e below (s₁.setTop (entryFrame m #[(.int p1), (.int p2)] maxLocals)) t := fun t k => pre2 t (by
      show Steps p.tables e below (s₁.setTop (mkF m 13 #[.val (.int p1), .val (.int p2), .val (.int mo), .unset, .unset] [(.int (p2 &&& (1 : Int32)))])) _
      refine XS.ifNo X0.here hx rfl (hb hby at_13) rfl ((if0 _ _).trans (feq (hc : ¬ ((p2 &&& (1 : Int32)) = (0 : Int32)))).1) ?_
      show Steps p.tables e below (s₁.setTop (mkF m 16 #[.val (.int p1), .val (.int p2), .val (.int mo), .unset, .unset] [])) _
      refine XS.iconst X0.here hx rfl (hb hby at_16) ?_
      show Steps p.tables e below (s₁.setTop (mkF m 17 #[.val (.int p1), .val (.int p2), .val (.int mo), .unset, .unset] [(.int (1 : Int32))])) _
      refine XS.goto X0.here hx rfl (pc0 := 17) (pc' := 21) rfl (hb hby at_17) (by decide) (by decide) ?_
      show Steps p.tables e below (s₁.setTop (mkF m 21 #[.val (.int p1), .val (.int p2), .val (.int mo), .unset, .unset] [(.int (1 : Int32))])) _
      refine XS.istoreN X0.here hx rfl (hb hby at_21) rfl (l' := #[.val (.int p1), .val (.int p2), .val (.int mo), .val (.int (1 : Int32)), .unset]) rfl ?_
      show Steps p.tables e below (s₁.setTop (mkF m 22 #[.val (.int p1), .val (.int p2), .val (.int mo), .val (.int (1 : Int32)), .unset] [])) _
      refine XS.iloadN X0.here hx rfl (hb hby at_22) rfl ?_
      show Steps p.tables e below (s₁.setTop (mkF m 23 #[.val (.int p1), .val (.int p2), .val (.int mo), .val (.int (1 : Int32)), .unset] [(.int mo)])) _
      refine XS.iloadN X0.here hx rfl (hb hby at_23) rfl ?_
      show Steps p.tables e below (s₁.setTop (mkF m 24 #[.val (.int p1), .val (.int p2), .val (.int mo), .val (.int (1 : Int32)), .unset] [(.int (1 : Int32)), (.int mo)])) _
      refine st6 _ ?_
      show Steps p.tables e below (T6.setTop (mkF m 27 #[.val (.int p1), .val (.int p2), .val (.int mo), .val (.int (1 : Int32)), .unset] [(.int (own_days mo (1 : Int32)))])) _
      refine XS.istore X6.here hx rfl (hb hby at_27) rfl (l' := #[.val (.int p1), .val (.int p2), .val (.int mo), .val (.int (1 : Int32)), .val (.int (own_days mo (1 : Int32)))]) rfl ?_
      show Steps p.tables e below (T6.setTop (mkF m 29 #[.val (.int p1), .val (.int p2), .val (.int mo), .val (.int (1 : Int32)), .val (.int (own_days mo (1 : Int32)))] [])) _
      refine XS.iload X6.here hx rfl (hb hby at_29) rfl ?_
      show Steps p.tables e below (T6.setTop (mkF m 31 #[.val (.int p1), .val (.int p2), .val (.int mo), .val (.int (1 : Int32)), .val (.int (own_days mo (1 : Int32)))] [(.int (own_days mo (1 : Int32)))])) _
      refine XS.iloadN X6.here hx rfl (hb hby at_31) rfl ?_
      show Steps p.tables e below (T6.setTop (mkF m 32 #[.val (.int p1), .val (.int p2), .val (.int mo), .val (.int (1 : Int32)), .val (.int (own_days mo (1 : Int32)))] [(.int mo), (.int (own_days mo (1 : Int32)))])) _
      refine XS.iloadN X6.here hx rfl (hb hby at_32) rfl ?_
      show Steps p.tables e below (T6.setTop (mkF m 33 #[.val (.int p1), .val (.int p2), .val (.int mo), .val (.int (1 : Int32)), .val (.int (own_days mo (1 : Int32)))] [(.int (1 : Int32)), (.int mo), (.int (own_days mo (1 : Int32)))])) _
      refine st7 _ ?_
      show Steps p.tables e below (T7.setTop (mkF m 36 #[.val (.int p1), .val (.int p2), .val (.int mo), .val (.int (1 : Int32)), .val (.int (own_days mo (1 : Int32)))] [(.int (own_exp mo (1 : Int32))), (.int (own_days mo (1 : Int32)))])) _
      refine XS.icmpNo X7.here hx rfl (hb hby at_36) rfl (teq ((own_same hmon) : (own_days mo (1 : Int32)) = (own_exp mo (1 : Int32)))).2 ?_
      show Steps p.tables e below (T7.setTop (mkF m 39 #[.val (.int p1), .val (.int p2), .val (.int mo), .val (.int (1 : Int32)), .val (.int (own_days mo (1 : Int32)))] [])) _
      refine XS.iconst X7.here hx rfl (hb hby at_39) ?_
      show Steps p.tables e below (T7.setTop (mkF m 40 #[.val (.int p1), .val (.int p2), .val (.int mo), .val (.int (1 : Int32)), .val (.int (own_days mo (1 : Int32)))] [(.int (1 : Int32))])) _
      refine XS.goto X7.here hx rfl (pc0 := 40) (pc' := 44) rfl (hb hby at_40) (by decide) (by decide) ?_
      exact k)
    obtain ⟨fs, hr, hrun, hended, hW, hsame⟩ := X7.leave (v := some (.int (nar .boolean (1 : Int32)))) (fun h => by rw [Bd.returns] at h; cases h)
    refine ⟨_, _, pre8 _ ?_, hrun, hended, _, _, rfl, ?_, ⟨_, rfl⟩, hW, hsame.mono (by decide) (by decide)⟩
    · show Steps p.tables e below (T7.setTop (mkF m 44 #[.val (.int p1), .val (.int p2), .val (.int mo), .val (.int (1 : Int32)), .val (.int (own_days mo (1 : Int32)))] [(.int (1 : Int32))])) _
      exact retN X7 hx (t := .boolean) Bd.returns (by simp) (hb hby at_44) hr
    · show QL n0 _ T7.heap _
      rw [e7]
      exact ⟨rfl, N7⟩
set_option maxRecDepth 65536 in
set_option maxHeartbeats 40000000 in
theorem comes_1 {Post : Tables → Env → Array Value → State → Outcome → State → Prop} (hpost : ∀ tb e args s v u, (limb_1_1.after args s (.returned v) u = true ∧ limb_1_2.after args s (.returned v) u = true ∧ True) → FrameEnd s (.returned v) u (Jvm.fieldLocs frame_1_writes args s ++ Jvm.arrayLocs frame_1_arrays args s ++ Jvm.staticLocs frame_1_statics s) 0 0 → Post tb e args s (.returned v) u) :
    ArmFor flags0 classFile x code maxLocals ret World_1 tables_1 room_1 Calls_1 rest_1 Pre_1 Post := by
  intro l hfl _ _ p e ha hc hk s m args below hf hA hF happ hP
  obtain ⟨hcalls, hrest, hpre⟩ := hP
  obtain ⟨-, -, -, hnamed, -, -, -, hat⟩ := (Spec.applies_iff hf).mp happ
  obtain ⟨hg, hn⟩ := and_e (Cond.before_iff.mp (show (Jvm.Cond.and given_1 narrow_1).before args s = true from hpre))
  obtain ⟨gc, gr0⟩ := and_e hg
  obtain ⟨ga0, gr1⟩ := and_e gr0
  have ga1 := gr1
  obtain ⟨w0, w1, rfl⟩ : ∃ w0 w1 : Value, args = #[w0, w1] := by
    have hs : args.size = 2 := by simpa [Cond.value, given_1] using gc
    obtain ⟨L⟩ := args
    match L, hs with
    | [w0, w1], _ => exact ⟨w0, w1, rfl⟩
  have hw := fun d (hd : d ∈ tables_1) => atoms_spec (ws := Jvm.Cond.code x code maxLocals ret :: tables_1) hat d (List.mem_cons_of_mem _ hd)
  have hfit : Fit s := fun {y c} hc i hi => by
    obtain ⟨ha, rfl⟩ := Array.getElem?_eq_some_iff.mp hc
    have q := List.all_eq_true.mp ((Array.all_eq_true_iff_forall_mem.mp hF) _ (Array.getElem_mem ha)) i (List.mem_range.mpr hi)
    simpa [Array.getElem?_eq_getElem hi] using q
  obtain ⟨i0, ei0⟩ := is_v ga0
  obtain rfl : w0 = (.int i0) := Option.some.inj ei0
  obtain ⟨i1, ei1⟩ := is_v ga1
  obtain rfl : w1 = (.int i1) := Option.some.inj ei1
  obtain ⟨n, o, h1, h2, h3, _, L, rfl, ⟨rfl, N⟩, hq⟩ := rm0 l s _ hw tables_1 i0 i1  s.heap s.heap.size (Nat.le_refl _)  p e ha hc hk s m _ below hf ((Spec.applies_iff_loose hf).mp happ).1 ⟨rfl, State.Warmed39.refl s, rfl⟩ trivial
  refine ⟨n, _, h1, h2, h3, hpost _ _ _ _ _ _ ⟨Cond.after_iff.mpr rfl, Cond.after_iff.mpr (eq_i res_at (Term.int_eval (1)) rfl), trivial⟩ ⟨hq.1, hq.2.1, (hq.2.2.sift fun y hy => Or.inr (N y hy)).mono (by decide) (by decide)⟩⟩
theorem main_1_1 : Claimed_1_1 := comes_1 fun _ _ _ _ _ _ h hF => ⟨h.1, hF⟩
theorem main_1_2 : Claimed_1_2 := comes_1 fun _ _ _ _ _ _ h hF => ⟨h.2.1, hF⟩
end Jvm.Pilot.@@N@@
namespace Jvm.Pilot.@@N@@
open Jvm Jvm.ClassFile Sem Op Lib Jvm.Free Jvm.Stand Jvm.Pilot.@@N@@.Jvm.D
/-! MADE BY PROGRAM (witnessworld.py) out of the Statement's table words and the real class files: 7 classes; the members and pool entries that the words name. The judged class is class 1, her method 2. -/
namespace start1
open Jvm.ClassFile
def u (s : String) : CpInfo := .utf8 (stringToUtf16 s)
/-- a pool by its gaps: so many unusable entries, then the entry; so many at the end -/
def gap : Nat → List CpInfo → List CpInfo
  | 0, r => r
  | n + 1, r => .unusable :: gap n r
def poolList (es : List (Nat × CpInfo)) (last : Nat) : List CpInfo := es.foldr (fun e r => gap e.1 (e.2 :: r)) (gap last [])
def pool (es : List (Nat × CpInfo)) (last : Nat) : Array CpInfo := ⟨poolList es last⟩
def fileOf (pool : Array CpInfo) (this : Nat) (attrs : Array Attribute := #[]) (ms : Array MethodInfo := #[]) (fl : Nat := 33) (sup : Nat := 0) (ifs : Array Nat := #[]) (fds : Array FieldInfo := #[]) : ClassFile where
  minorVersion := 0
  majorVersion := 65
  constantPool := pool
  accessFlags := fl
  thisClass := this
  superClass := sup
  interfaces := ifs
  fields := fds
  methods := ms
  attributes := attrs
def plain (name : String) (sup : Option ClassId) : Class where
  name := name
  kind := .ordinary
  loader := none
  accessFlags := 33
  super := sup
  interfaces := #[]
  cf := none
  fields := #[]
  methods := #[]
  instanceTypes := #[]
  staticTypes := #[]
  resolved := #[]
  callSites := []
  init := .initialized
  statics := none
  mirror := none

def pool0 : Array CpInfo := pool [(5, u "<init>"), (0, u "()V"), (1, .class_ 10), (1, u "java/lang/Object")] 113

def k0m0 : Method := { name := "<init>", desc := "()V", sig := { parameters := [], returnType := none }, accessFlags := 1, code := none }
/-- java/lang/Object -/
def k0 : Class := { plain "java/lang/Object" none with
  accessFlags := 33
  interfaces := #[]
  cf := some (fileOf pool0 8 #[] #[{ accessFlags := 1, nameIndex := 5, descriptorIndex := 6, attributes := #[] }] 33 0 #[] #[])
  fields := #[]
  methods := #[k0m0]
  instanceTypes := #[]
  staticTypes := #[]
  resolved := Array.replicate 124 none
  statics := none }

def pool1 : Array CpInfo := pool [(2, .class_ 4), (1, u "java/lang/Object"), (0, u "<init>"), (0, u "()V"), (0, .integer 2147483647), (0, .methodref 9 10), (0, .class_ 11), (0, .nameAndType 12 13), (0, u "com/example/datewarden/datewarden/Gregorian"), (0, u "daysInMonth"), (0, u "(IZ)I"), (0, .methodref 15 16), (0, .class_ 17), (0, .nameAndType 18 13), (0, u "com/example/datewarden/datewarden/GregorianDaysInMonthPinLaw"), (0, u "expected"), (3, u "law"), (0, u "(II)Z")] 2

def k1m0 : Method := { name := "<init>", desc := "()V", sig := { parameters := [], returnType := none }, accessFlags := 2, code := none }
def k1c1 : Code := { maxStack := 4, maxLocals := 2, code := method_2_code, exceptionTable := #[], attributes := #[] }
def k1m1 : Method := { name := "expected", desc := "(IZ)I", sig := { parameters := [.int, .boolean], returnType := some .int }, accessFlags := 10, code := some k1c1 }
def k1c2 : Code := { maxStack := 3, maxLocals := 5, code := code, exceptionTable := #[], attributes := #[] }
def k1m2 : Method := { name := "law", desc := "(II)Z", sig := { parameters := [.int, .int], returnType := some .boolean }, accessFlags := 9, code := some k1c2 }
/-- com/example/datewarden/datewarden/GregorianDaysInMonthPinLaw -/
def k1 : Class := { plain "com/example/datewarden/datewarden/GregorianDaysInMonthPinLaw" (some 0) with
  accessFlags := 49
  interfaces := #[]
  cf := some (fileOf pool1 15 #[] #[{ accessFlags := 2, nameIndex := 5, descriptorIndex := 6, attributes := #[] }, { accessFlags := 10, nameIndex := 18, descriptorIndex := 13, attributes := #[] }, { accessFlags := 9, nameIndex := 22, descriptorIndex := 23, attributes := #[] }] 49 2 #[] #[])
  fields := #[]
  methods := #[k1m0, k1m1, k1m2]
  instanceTypes := #[]
  staticTypes := #[]
  resolved := Array.replicate 26 none
  statics := none }

def pool2 : Array CpInfo := pool [(2, .class_ 4), (1, u "java/lang/Object"), (0, u "<init>"), (0, u "()V"), (13, u "Ljava/math/BigInteger;"), (5, .class_ 28), (1, u "com/example/datewarden/datewarden/Gregorian"), (0, u "DAYS_IN_400_YEARS"), (16, u "FOUR_HUNDRED"), (20, u "daysInMonth"), (0, u "(IZ)I"), (0, .class_ 70), (0, u "com/example/datewarden/datewarden/Gregorian$Date"), (18, u "DAYS_IN_YEAR"), (2, u "FOUR"), (5, u "HUNDRED"), (8, u "TWELVE"), (6, u "DAYS_IN_100_YEARS"), (0, u "I"), (1, u "DAYS_IN_4_YEARS")] 19

def k2m0 : Method := { name := "<init>", desc := "()V", sig := { parameters := [], returnType := none }, accessFlags := 2, code := none }
def k2c1 : Code := { maxStack := 1, maxLocals := 2, code := prog_21_method_5_code, exceptionTable := #[], attributes := #[] }
def k2m1 : Method := { name := "daysInMonth", desc := "(IZ)I", sig := { parameters := [.int, .boolean], returnType := some .int }, accessFlags := 8, code := some k2c1 }
/-- com/example/datewarden/datewarden/Gregorian -/
def k2 : Class := { plain "com/example/datewarden/datewarden/Gregorian" (some 0) with
  accessFlags := 48
  interfaces := #[]
  cf := some (fileOf pool2 26 #[.nestMembers #[69]] #[{ accessFlags := 2, nameIndex := 5, descriptorIndex := 6, attributes := #[] }, { accessFlags := 8, nameIndex := 67, descriptorIndex := 68, attributes := #[] }] 48 2 #[] #[{ accessFlags := 26, nameIndex := 29, descriptorIndex := 20, attributes := #[] }, { accessFlags := 26, nameIndex := 114, descriptorIndex := 115, attributes := #[] }, { accessFlags := 26, nameIndex := 117, descriptorIndex := 115, attributes := #[] }, { accessFlags := 26, nameIndex := 92, descriptorIndex := 20, attributes := #[] }, { accessFlags := 26, nameIndex := 107, descriptorIndex := 20, attributes := #[] }, { accessFlags := 26, nameIndex := 98, descriptorIndex := 20, attributes := #[] }, { accessFlags := 26, nameIndex := 46, descriptorIndex := 20, attributes := #[] }, { accessFlags := 26, nameIndex := 89, descriptorIndex := 20, attributes := #[] }])
  fields := #[{ name := "DAYS_IN_400_YEARS", type := (.object "java/math/BigInteger"), accessFlags := 26, slot := 0, constantValue := 0 }, { name := "DAYS_IN_100_YEARS", type := .int, accessFlags := 26, slot := 1, constantValue := 0 }, { name := "DAYS_IN_4_YEARS", type := .int, accessFlags := 26, slot := 2, constantValue := 0 }, { name := "FOUR", type := (.object "java/math/BigInteger"), accessFlags := 26, slot := 3, constantValue := 0 }, { name := "TWELVE", type := (.object "java/math/BigInteger"), accessFlags := 26, slot := 4, constantValue := 0 }, { name := "HUNDRED", type := (.object "java/math/BigInteger"), accessFlags := 26, slot := 5, constantValue := 0 }, { name := "FOUR_HUNDRED", type := (.object "java/math/BigInteger"), accessFlags := 26, slot := 6, constantValue := 0 }, { name := "DAYS_IN_YEAR", type := (.object "java/math/BigInteger"), accessFlags := 26, slot := 7, constantValue := 0 }]
  methods := #[k2m0, k2m1]
  instanceTypes := #[]
  staticTypes := #[(.object "java/math/BigInteger"), .int, .int, (.object "java/math/BigInteger"), (.object "java/math/BigInteger"), (.object "java/math/BigInteger"), (.object "java/math/BigInteger"), (.object "java/math/BigInteger")]
  resolved := Array.replicate 137 none
  statics := none }

def pool3 : Array CpInfo := pool [(1, u "java/lang/Cloneable"), (0, .class_ 1), (0, u "java/lang/Object"), (0, .class_ 3)] 3

/-- java/lang/Cloneable -/
def k3 : Class := { plain "java/lang/Cloneable" (some 0) with
  accessFlags := 1537
  interfaces := #[]
  cf := some (fileOf pool3 2 #[] #[] 1537 4 #[] #[])
  fields := #[]
  methods := #[]
  instanceTypes := #[]
  staticTypes := #[]
  resolved := Array.replicate 8 none
  statics := none }

def pool4 : Array CpInfo := pool [(1, u "java/io/Serializable"), (0, .class_ 1), (0, u "java/lang/Object"), (0, .class_ 3)] 3

/-- java/io/Serializable -/
def k4 : Class := { plain "java/io/Serializable" (some 0) with
  accessFlags := 1537
  interfaces := #[]
  cf := some (fileOf pool4 2 #[] #[] 1537 4 #[] #[])
  fields := #[]
  methods := #[]
  instanceTypes := #[]
  staticTypes := #[]
  resolved := Array.replicate 8 none
  statics := none }

/-- the primitive byte -/
def k5 : Class := { plain "byte" none with kind := .primitive 'B', accessFlags := 0x411 }
/-- [B -/
def k6 : Class := { plain "[B" (some 0) with kind := .array 5 .byte, interfaces := #[3, 4], accessFlags := 1041 }

def heap : Heap := #[]
def classes : Array Class := #[k0, k1, k2, k3, k4, k5, k6]
def interned : List (Array UInt16 × Addr) := []
def slotsUsed : Nat := 0
def theMethod : MethodId := ⟨1, 2⟩
def args0 : Array Value := #[.int 5, .int 7]
def aboutOver (below : List Frame) : State where
  vm := { classes := classes, interned := interned.toArray }
  heap := heap
  slotsUsed := slotsUsed
  threads := #[{ frames := .invoking theMethod args0 :: below }]
def below0 : List Frame := [.native { method := ⟨0, 0⟩, args := #[] }]
def about1 : State := aboutOver below0
def p0 : Program := .bare "" "" ""
def e0 : Env := launch0.env 0 0 0
theorem w_frames : about1.frames = Frame.invoking theMethod args0 :: below0 := rfl
set_option maxRecDepth 65536 in
theorem w_args : argsFit about1.vm theMethod args0 = true := by decide +kernel
set_option maxRecDepth 65536 in
theorem w_heap : heapFits about1 = true := by decide +kernel
set_option maxRecDepth 65536 in
theorem w_runnable : about1.curStatus? = some .runnable := by decide +kernel
set_option maxRecDepth 65536 in
theorem w_alone : about1.alone = true := by decide +kernel
set_option maxRecDepth 65536 in
theorem w_named : about1.methodNamed? x = some theMethod := by decide +kernel
set_option maxRecDepth 65536 in
theorem w_hears : about1.hears theMethod below0 = true := by decide +kernel
set_option maxRecDepth 65536 in
theorem w_ripe : about1.ripe theMethod args0 below0 = true := by decide +kernel
theorem w_running : about1.status = .running := rfl
set_option maxRecDepth 65536 in
theorem w_room : about1.hasRoom e0.platform room_1 = true :=
  launch0.hasRoom_least _ room_1 (by decide +kernel) (by decide +kernel) (by decide +kernel) (by decide +kernel) (by decide +kernel) (by decide +kernel)
theorem allAtoms_all (ts : List Jvm.Cond) (a : Array Jvm.Value) (st : Jvm.State) : (allAtoms ts).before a st = ts.all (fun c => c.before a st) := by
  induction ts with
  | nil => rfl
  | cons c t ih =>
    show (Jvm.Cond.and c (allAtoms t)).before a st = _
    rw [Jvm.Cond.before_and, ih, List.all_cons]
def words1 : List Jvm.Cond := Jvm.Cond.code x code maxLocals ret :: tables_1
/-- a 'code' word, met by the world's own term for the bytes: nothing is compared byte by byte -/
theorem code_word {y : MethodName} {bytes : ByteArray} {mx : Nat} {rt : Option FieldType} {a : Array Value} {s : State} {m : MethodId} {meth : Method} {c : Code} (h1 : s.methodNamed? y = some m) (h2 : s.vm.method? m = some meth) (h3 : meth.code = some c) (h4 : c.code = bytes)
    (h5 : (c.maxLocals == mx && c.exceptionTable.isEmpty && decide (c.maxStack ≤ mostOperands) && decide (meth.sig.returnType = rt) && !meth.locks && decide (parseMethodDescriptor y.desc = some meth.sig)) = true) : (Jvm.Cond.code y bytes mx rt).before a s = true := by
  simp only [Bool.and_eq_true, beq_iff_eq, Bool.not_eq_true', decide_eq_true_eq] at h5
  obtain ⟨⟨⟨⟨⟨g1, g2⟩, g3⟩, g4⟩, g5⟩, g6⟩ := h5
  simp [Cond.before, Cond.holds, Cond.value, h1, h2, h3, h4, g1, g2, g3, g4, g5, g6]
def isCode : Jvm.Cond → Bool
  | .code _ _ _ _ => true
  | _ => false
theorem all_split {L : List Jvm.Cond} {P : Jvm.Cond → Bool} (h1 : L.all (fun c => isCode c || P c) = true) (h2 : ∀ c ∈ L.filter isCode, P c = true) : L.all P = true := by
  refine List.all_eq_true.mpr fun c hc => ?_
  have h := List.all_eq_true.mp h1 c hc
  rcases Bool.eq_false_or_eq_true (isCode c) with hi | hi
  · exact h2 c (List.mem_filter.mpr ⟨hc, hi⟩)
  · simpa [hi] using h
set_option maxRecDepth 65536 in
theorem w_c0 : (Jvm.Cond.code x code maxLocals ret).before args0 about1 = true := code_word (m := ⟨1, 2⟩) (meth := k1m2) (c := k1c2) (by decide +kernel) rfl rfl rfl (by decide +kernel)
set_option maxRecDepth 65536 in
theorem w_c1 : (Jvm.Cond.code ({ cls := "com/example/datewarden/datewarden/Gregorian", name := "daysInMonth", desc := "(IZ)I" } : Jvm.MethodName) prog_21_method_5_code (2 : Nat) (Option.some Jvm.ClassFile.FieldType.int)).before args0 about1 = true := code_word (m := ⟨2, 1⟩) (meth := k2m1) (c := k2c1) (by decide +kernel) rfl rfl rfl (by decide +kernel)
set_option maxRecDepth 65536 in
theorem w_c2 : (Jvm.Cond.code ({ cls := "com/example/datewarden/datewarden/GregorianDaysInMonthPinLaw", name := "expected", desc := "(IZ)I" } : Jvm.MethodName) method_2_code (2 : Nat) (Option.some Jvm.ClassFile.FieldType.int)).before args0 about1 = true := code_word (m := ⟨1, 1⟩) (meth := k1m1) (c := k1c1) (by decide +kernel) rfl rfl rfl (by decide +kernel)
def codes1 : List Jvm.Cond := [Jvm.Cond.code x code maxLocals ret, Jvm.Cond.code ({ cls := "com/example/datewarden/datewarden/Gregorian", name := "daysInMonth", desc := "(IZ)I" } : Jvm.MethodName) prog_21_method_5_code (2 : Nat) (Option.some Jvm.ClassFile.FieldType.int), Jvm.Cond.code ({ cls := "com/example/datewarden/datewarden/GregorianDaysInMonthPinLaw", name := "expected", desc := "(IZ)I" } : Jvm.MethodName) method_2_code (2 : Nat) (Option.some Jvm.ClassFile.FieldType.int)]
set_option maxRecDepth 65536 in
theorem codes_eq : words1.filter isCode = codes1 := rfl
theorem w_codes : ∀ c ∈ words1.filter isCode, c.before args0 about1 = true := by
  rw [codes_eq]
  intro c hc
  simp only [codes1, List.mem_cons, List.not_mem_nil, or_false] at hc
  rcases hc with rfl | rfl | rfl
  · exact w_c0
  · exact w_c1
  · exact w_c2
set_option maxRecDepth 65536 in
theorem w_t1 : words1.all (fun c => isCode c || c.before args0 about1) = true := by decide +kernel
theorem w_tables : (allAtoms (Jvm.Cond.code x code maxLocals ret :: tables_1)).before args0 about1 = true := by
  rw [allAtoms_all]
  show words1.all (fun c => c.before args0 about1) = true
  refine all_split ?_ w_codes
  rw [w_t1]
set_option maxRecDepth 65536 in
theorem w_case : (Jvm.Cond.and given_1 narrow_1).before args0 about1 = true := by decide +kernel
theorem w_applies : (headSpec (Jvm.Cond.code x code maxLocals ret :: tables_1) room_1).applies x e0.platform about1 = true :=
  (Spec.applies_iff w_frames).mpr ⟨w_running, w_runnable, w_alone, w_named, w_hears, w_ripe, w_room, w_tables⟩
theorem atStart : AtStart classFile x code maxLocals ret World_1 tables_1 room_1 Calls_1 rest_1 Pre_1 launch0 p0 e0 about1 theMethod args0 below0 :=
  ⟨lists_1, trivial, launch0.admits_env _ _ _, launch0.least_env, fairChoices_fair.cas, fairChoices_fair.clock, w_frames, w_args, w_heap, w_applies, trivial, trivial, w_case⟩
end start1
theorem witness_1 : WitnessClaimed_1 := ⟨start1.p0, start1.e0, start1.about1, start1.theMethod, start1.args0, start1.below0, start1.atStart⟩
end Jvm.Pilot.@@N@@
