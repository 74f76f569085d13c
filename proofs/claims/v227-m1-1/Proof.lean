import JvmDerived
import JvmDerived.Pilot.@@N@@Statement
import JvmDerived.Pilot.@@N@@Code
set_option linter.unusedVariables false
set_option linter.unusedSimpArgs false
@@BLOCK:NumsL.lean.txt@@
namespace Jvm.RoadKit
open Sem ClassFile Op Lib Jvm.Stand Jvm.Free Jvm.LawKit
section New
variable {p : Program} {l : Launch} {e : Env} {R : Room} {s : State} {m : MethodId} {args : Array Value} {below : List Frame} {meth : Method} {c : Code} {T : State} {locs : List Loc} {cells slots : Nat}
theorem retI (X : Stand p l e R s m args below meth c T locs cells slots) (hx : p.tables.exec = Jvm.exec) {pc : Nat} {Ls : Array Slot} {z : Int32} {rest : List Value} (hret : meth.sig.returnType = some .int) (hd : decode c.code pc = .ok (.ireturn, 1)) {fs : List Frame}
    (hl : ∀ (f : JFrame) (acts : List Action), f.method = m → f.locked = none → f.entered = [] → (doReturn e (T.setTop f) acts (some (.int z))).1 = T.setFrames fs) : Steps p.tables e below (T.setTop (mkF m pc Ls (.int z :: rest))) (T.setFrames fs) := by
  have hm' : T.vm.method? m = some meth := X.method'
  have hn : narrow .int (.int z) = .int z := rfl
  show Steps p.tables e below (T.setTop { method := m, pc := pc, locals := Ls, stack := _ :: rest, locked := none }) _
  jvm_step X.here [X.here.top, hx, hd, hm', hret, hn]
  first | (intro acts; rw [hl _ acts rfl rfl rfl]) | rw [hl _ _ rfl rfl rfl]
  exact Steps.refl _
end New
end Jvm.RoadKit
namespace Jvm.Pilot.@@N@@
open Jvm Jvm.ClassFile Sem Op Lib Jvm.Free Jvm.Stand Jvm.LawKit Jvm.RoadKit Bundle Jvm.Pilot.@@N@@.Jvm.D
/-- a body that returns r, makes and writes nothing -/
def QP (r : Value) (h0 : Heap) (n0 : Nat) (v : Option Value) (h : Heap) (L : List Loc) : Prop := v = some r ∧ Fr n0 L ∧ h = h0
theorem own_d_method_2_code_0 : decode method_2_code 0 = .ok (.iload_n 0, 1) := by decide +kernel
theorem own_d_method_2_code_1 : decode method_2_code 1 = .ok (.ifCond .ne 7, 3) := by decide +kernel
theorem own_d_method_2_code_4 : decode method_2_code 4 = .ok (.getstatic 7, 3) := by decide +kernel
theorem own_d_method_2_code_7 : decode method_2_code 7 = .ok (.areturn, 1) := by decide +kernel
theorem own_d_prog_59_method_6_code_0 : decode prog_59_method_6_code 0 = .ok (.aload_n 0, 1) := by decide +kernel
theorem own_d_prog_59_method_6_code_1 : decode prog_59_method_6_code 1 = .ok (.getstatic 3, 3) := by decide +kernel
theorem own_d_prog_59_method_6_code_4 : decode prog_59_method_6_code 4 = .ok (.if_acmp .eq 24, 3) := by decide +kernel
theorem own_d_prog_59_method_6_code_28 : decode prog_59_method_6_code 28 = .ok (.iconst 1, 1) := by decide +kernel
theorem own_d_prog_59_method_6_code_29 : decode prog_59_method_6_code 29 = .ok (.goto 4, 3) := by decide +kernel
theorem own_d_prog_59_method_6_code_33 : decode prog_59_method_6_code 33 = .ok (.ireturn, 1) := by decide +kernel
theorem own_d_method_2_code_8 : decode method_2_code 8 = .ok (.iload_n 0, 1) := by decide +kernel
theorem own_d_method_2_code_9 : decode method_2_code 9 = .ok (.iconst 1, 1) := by decide +kernel
theorem own_d_method_2_code_10 : decode method_2_code 10 = .ok (.if_icmp .ne 7, 3) := by decide +kernel
theorem own_d_method_2_code_13 : decode method_2_code 13 = .ok (.getstatic 13, 3) := by decide +kernel
theorem own_d_method_2_code_16 : decode method_2_code 16 = .ok (.areturn, 1) := by decide +kernel
theorem own_d_prog_59_method_6_code_7 : decode prog_59_method_6_code 7 = .ok (.aload_n 0, 1) := by decide +kernel
theorem own_d_prog_59_method_6_code_8 : decode prog_59_method_6_code 8 = .ok (.getstatic 7, 3) := by decide +kernel
theorem own_d_prog_59_method_6_code_11 : decode prog_59_method_6_code 11 = .ok (.if_acmp .eq 17, 3) := by decide +kernel
theorem own_d_method_2_code_17 : decode method_2_code 17 = .ok (.iload_n 0, 1) := by decide +kernel
theorem own_d_method_2_code_18 : decode method_2_code 18 = .ok (.iconst 2, 1) := by decide +kernel
theorem own_d_method_2_code_19 : decode method_2_code 19 = .ok (.if_icmp .ne 7, 3) := by decide +kernel
theorem own_d_method_2_code_22 : decode method_2_code 22 = .ok (.getstatic 16, 3) := by decide +kernel
theorem own_d_method_2_code_25 : decode method_2_code 25 = .ok (.areturn, 1) := by decide +kernel
theorem own_d_prog_59_method_6_code_14 : decode prog_59_method_6_code 14 = .ok (.aload_n 0, 1) := by decide +kernel
theorem own_d_prog_59_method_6_code_15 : decode prog_59_method_6_code 15 = .ok (.getstatic 10, 3) := by decide +kernel
theorem own_d_prog_59_method_6_code_18 : decode prog_59_method_6_code 18 = .ok (.if_acmp .eq 10, 3) := by decide +kernel
theorem own_d_method_2_code_26 : decode method_2_code 26 = .ok (.iload_n 0, 1) := by decide +kernel
theorem own_d_method_2_code_27 : decode method_2_code 27 = .ok (.iconst 3, 1) := by decide +kernel
theorem own_d_method_2_code_28 : decode method_2_code 28 = .ok (.if_icmp .ne 7, 3) := by decide +kernel
theorem own_d_method_2_code_31 : decode method_2_code 31 = .ok (.getstatic 19, 3) := by decide +kernel
theorem own_d_method_2_code_34 : decode method_2_code 34 = .ok (.areturn, 1) := by decide +kernel
theorem own_d_prog_59_method_6_code_21 : decode prog_59_method_6_code 21 = .ok (.aload_n 0, 1) := by decide +kernel
theorem own_d_prog_59_method_6_code_22 : decode prog_59_method_6_code 22 = .ok (.getstatic 19, 3) := by decide +kernel
theorem own_d_prog_59_method_6_code_25 : decode prog_59_method_6_code 25 = .ok (.if_acmp .ne 7, 3) := by decide +kernel
theorem own_d_prog_59_method_6_code_32 : decode prog_59_method_6_code 32 = .ok (.iconst 0, 1) := by decide +kernel
theorem own_d_method_2_code_35 : decode method_2_code 35 = .ok (.iload_n 0, 1) := by decide +kernel
theorem own_d_method_2_code_36 : decode method_2_code 36 = .ok (.iconst 4, 1) := by decide +kernel
theorem own_d_method_2_code_37 : decode method_2_code 37 = .ok (.if_icmp .ne 7, 3) := by decide +kernel
theorem own_d_method_2_code_40 : decode method_2_code 40 = .ok (.getstatic 22, 3) := by decide +kernel
theorem own_d_method_2_code_43 : decode method_2_code 43 = .ok (.areturn, 1) := by decide +kernel
theorem own_d_method_2_code_44 : decode method_2_code 44 = .ok (.getstatic 25, 3) := by decide +kernel
theorem own_d_method_2_code_47 : decode method_2_code 47 = .ok (.areturn, 1) := by decide +kernel
theorem own_pd0 : parseMethodDescriptor "(I)Lcom/example/fapiao_lens/fapiaolens/Status;" = some ⟨[.int], some (.object "com/example/fapiao_lens/fapiaolens/Status")⟩ := by decide +kernel
theorem own_pd1 : parseMethodDescriptor "()Z" = some ⟨[], some .boolean⟩ := by decide +kernel
theorem own_pn0 : plainName "com/example/fapiao_lens/fapiaolens/StatusCarriesValuePinLaw" = true := by first | (simp [plainName, overriddenIn]; done) | decide +kernel
theorem own_pn1 : plainName "com/example/fapiao_lens/fapiaolens/Status" = true := by first | (simp [plainName, overriddenIn]; done) | decide +kernel
def QL (n0 : Nat) (v : Option Value) (h : Heap) (L : List Loc) : Prop := v = some (.int 1) ∧ Fr n0 L
theorem own_intv {args : Array Value} {Z : State} {t : Term} {k : Int32} (h : (Cond.eq t (.int k)).value args Z none Z [] = some true) : t.eval args Z none [] Z = some (.int k) := by
  obtain ⟨x, y, e1, e2, -, k2⟩ := cmp_v (Or.inl h)
  have e2' : some (Value.int k) = some y := e2
  cases e2'
  obtain ⟨z, rfl⟩ := k2
  have q := gotT (Cond.eq_ints e1 (Term.int_eval k)) h
  rw [← q]; exact e1
theorem own_fldI {args : Array Value} {Z : State} {t : Term} {C n d : String} {k : Int32} {a : Addr} (ht : t.eval args Z none [] Z = some (.ref a)) (h : (Cond.eq (.field t C n d) (.int k)).value args Z none Z [] = some true) : Fld Z Z.heap a C n d (.int k) :=
  Fld.start ((fld_at ht).symm.trans (own_intv h))
theorem own_k (a : Int32) : ((a &&& (2147483647 : Int32)) % (6 : Int32)) = 0 ∨ ((a &&& (2147483647 : Int32)) % (6 : Int32)) = 1 ∨ ((a &&& (2147483647 : Int32)) % (6 : Int32)) = 2 ∨ ((a &&& (2147483647 : Int32)) % (6 : Int32)) = 3 ∨ ((a &&& (2147483647 : Int32)) % (6 : Int32)) = 4 ∨ ((a &&& (2147483647 : Int32)) % (6 : Int32)) = 5 := by
  have e1 : (a &&& 2147483647).toInt = a.toInt % 2 ^ 31 := Jvm.Kit.i32_mask a 2147483647 (k := 31) (by decide) (by decide)
  generalize (a &&& 2147483647) = x at *
  have t6 : (6 : Int32).toInt = 6 := by decide
  have d2 : (x % (6 : Int32)).toInt = x.toInt % 6 := by rw [Int32.toInt_mod, t6, Int.tmod_eq_emod_of_nonneg (by omega)]
  simp only [← Int32.toInt_inj, d2]
  show x.toInt % 6 = 0 ∨ x.toInt % 6 = 1 ∨ x.toInt % 6 = 2 ∨ x.toInt % 6 = 3 ∨ x.toInt % 6 = 4 ∨ x.toInt % 6 = 5
  omega
theorem own_ef_rm1_0 (m : MethodId) (y0 : Int32) : entryFrame m #[(.int y0)] 1 = mkF m 0 #[.val (.int y0)] [] := by first | (simp [entryFrame, mkF, argsToLocals, Value.category]; done) | rfl
set_option maxRecDepth 65536 in
set_option maxHeartbeats 40000000 in
theorem rm1_0 (l : Launch) (Z : State) (a0 : Array Value) (hw : ∀ d ∈ tables_1, d.before a0 Z = true) (ws : List Jvm.Cond) (a_CORRECT : Addr) (a_MISSING : Addr) (a_ABSENT : Addr) (a_WARNING : Addr) (a_INCORRECT : Addr) (a_CONFIRMED : Addr) (h0 : Heap) (n0 : Nat) (Z0 : n0 ≤ h0.size) (S_CORRECT : Sta Z h0 "com/example/fapiao_lens/fapiaolens/Status" "CORRECT" "Lcom/example/fapiao_lens/fapiaolens/Status;" (.ref a_CORRECT)) (E_CORRECT : Exa Z h0 a_CORRECT "com/example/fapiao_lens/fapiaolens/Status") (S_MISSING : Sta Z h0 "com/example/fapiao_lens/fapiaolens/Status" "MISSING" "Lcom/example/fapiao_lens/fapiaolens/Status;" (.ref a_MISSING)) (E_MISSING : Exa Z h0 a_MISSING "com/example/fapiao_lens/fapiaolens/Status") (S_ABSENT : Sta Z h0 "com/example/fapiao_lens/fapiaolens/Status" "ABSENT" "Lcom/example/fapiao_lens/fapiaolens/Status;" (.ref a_ABSENT)) (E_ABSENT : Exa Z h0 a_ABSENT "com/example/fapiao_lens/fapiaolens/Status") (S_WARNING : Sta Z h0 "com/example/fapiao_lens/fapiaolens/Status" "WARNING" "Lcom/example/fapiao_lens/fapiaolens/Status;" (.ref a_WARNING)) (E_WARNING : Exa Z h0 a_WARNING "com/example/fapiao_lens/fapiaolens/Status") (S_INCORRECT : Sta Z h0 "com/example/fapiao_lens/fapiaolens/Status" "INCORRECT" "Lcom/example/fapiao_lens/fapiaolens/Status;" (.ref a_INCORRECT)) (E_INCORRECT : Exa Z h0 a_INCORRECT "com/example/fapiao_lens/fapiaolens/Status") (S_CONFIRMED : Sta Z h0 "com/example/fapiao_lens/fapiaolens/Status" "CONFIRMED" "Lcom/example/fapiao_lens/fapiaolens/Status;" (.ref a_CONFIRMED)) (E_CONFIRMED : Exa Z h0 a_CONFIRMED "com/example/fapiao_lens/fapiaolens/Status") (F_CORRECT_ordinal : Fld Z h0 a_CORRECT "java/lang/Enum" "ordinal" "I" (.int (0 : Int32))) (F_MISSING_ordinal : Fld Z h0 a_MISSING "java/lang/Enum" "ordinal" "I" (.int (3 : Int32))) (F_ABSENT_ordinal : Fld Z h0 a_ABSENT "java/lang/Enum" "ordinal" "I" (.int (4 : Int32))) (F_WARNING_ordinal : Fld Z h0 a_WARNING "java/lang/Enum" "ordinal" "I" (.int (1 : Int32))) (F_INCORRECT_ordinal : Fld Z h0 a_INCORRECT "java/lang/Enum" "ordinal" "I" (.int (2 : Int32))) (F_CONFIRMED_ordinal : Fld Z h0 a_CONFIRMED "java/lang/Enum" "ordinal" "I" (.int (5 : Int32))) :
    MetFree l (⟨"com/example/fapiao_lens/fapiaolens/StatusCarriesValuePinLaw", "pick", "(I)Lcom/example/fapiao_lens/fapiaolens/Status;"⟩ : MethodName) (head1 (Jvm.Cond.code (⟨"com/example/fapiao_lens/fapiaolens/StatusCarriesValuePinLaw", "pick", "(I)Lcom/example/fapiao_lens/fapiaolens/Status;"⟩ : MethodName) method_2_code 1 (some (.object "com/example/fapiao_lens/fapiaolens/Status")) :: ws) ({ frames := 0, cells := 0, slots := 0, locals := 0 } : Room)) (fun a U => a = #[(.int (0 : Int32))] ∧ Z.Warmed39 U.vm ∧ U.heap = h0) (fun _ _ _ _ _ => True) (fun _ U o U' => ∃ v L, o = .returned v ∧ QP (.ref a_CORRECT) h0 n0 v U'.heap L ∧ FrameEnd U o U' L ({ frames := 0, cells := 0, slots := 0, locals := 0 } : Room).cells ({ frames := 0, cells := 0, slots := 0, locals := 0 } : Room).slots) := by
  refine MetFree.of_bodySF (plainFor_of_name own_pn0) hisR ?_
  intro p e s m args below meth c s₁ Bd hml0 hP hK
  obtain ⟨rfl, hZ, hh⟩ := hP
  have hx := Bd.exec
  have hby := Bd.bytes
  have hml : c.maxLocals = 1 := hml0
  have hown : s.vm.findClass "com/example/fapiao_lens/fapiaolens/StatusCarriesValuePinLaw" = some m.cls := findClass_of_methodNamed Bd.named
  have hnm := (name_of_methodNamed Bd.named Bd.method).1
  have X0 : Stand p l e ({ frames := 0, cells := 0, slots := 0, locals := 0 } : Room) s m #[(.int (0 : Int32))] below meth c s₁ [] 0 0 := Stand.of_body Bd
  have e0 : s₁.heap = h0 := by rw [← hh, Bd.state]; rfl
  have N0 := Fr.nil n0
  have pre0 : ∀ t, Steps p.tables e below (s₁.setTop (mkF m 0 #[.val (.int (0 : Int32))] [])) t → Steps p.tables e below (s₁.setTop (entryFrame m #[(.int (0 : Int32))] 1)) t := fun t k => castTop (own_ef_rm1_0 m (0 : Int32)) k
  obtain ⟨T1, X1, e1, st1⟩ := getS2 X0 hx hZ hown (host := "") (Or.inl (hw _ (List.mem_of_getElem? (i := 5) rfl))) Via.refl e0 S_CORRECT (g := (mkF m 4 #[.val (.int (0 : Int32))] [])) rfl (hb hby own_d_method_2_code_4)
  have pre2 : ∀ t, Steps p.tables e below (T1.setTop (mkF m 7 #[.val (.int (0 : Int32))] [(.ref a_CORRECT)])) t → Steps p.tables e below (s₁.setTop (entryFrame m #[(.int (0 : Int32))] 1)) t := fun t k => pre0 t (by
    show Steps p.tables e below (s₁.setTop (mkF m 0 #[.val (.int (0 : Int32))] [])) _
    refine XS.iloadN X0.here hx rfl (hb hby own_d_method_2_code_0) rfl ?_
    show Steps p.tables e below (s₁.setTop (mkF m 1 #[.val (.int (0 : Int32))] [(.int (0 : Int32))])) _
    refine XS.ifNo X0.here hx rfl (hb hby own_d_method_2_code_1) rfl ((if0 _ _).trans (teq ((by decide) : (0 : Int32) = (0 : Int32))).2) ?_
    show Steps p.tables e below (s₁.setTop (mkF m 4 #[.val (.int (0 : Int32))] [])) _
    refine st1 _ ?_
    exact k)
  obtain ⟨fs, hr, hrun, hended, hW, hsame⟩ := X1.leave (v := some (.ref a_CORRECT)) (fun h => by rw [Bd.returns] at h; cases h)
  refine ⟨_, _, pre2 _ ?_, hrun, hended, _, _, rfl, ?_, ⟨_, rfl⟩, hW, hsame.mono (by decide) (by decide)⟩
  · show Steps p.tables e below (T1.setTop (mkF m 7 #[.val (.int (0 : Int32))] [(.ref a_CORRECT)])) _
    exact retOut X1 hx (t := (.object "com/example/fapiao_lens/fapiaolens/Status")) (i := .areturn) Bd.returns rfl (Or.inr (Or.inr (Or.inr (Or.inr ⟨rfl, rfl, rfl⟩)))) (hb hby own_d_method_2_code_7) hr
  · show QP (.ref a_CORRECT) h0 n0 _ T1.heap _
    rw [e1]
    exact ⟨rfl, N0, rfl⟩
theorem own_ef_rm2_0 (m : MethodId) (y0 : Addr) : entryFrame m #[(.ref y0)] 1 = mkF m 0 #[.val (.ref y0)] [] := by first | (simp [entryFrame, mkF, argsToLocals, Value.category]; done) | rfl
set_option maxRecDepth 65536 in
set_option maxHeartbeats 40000000 in
theorem rm2_0 (l : Launch) (Z : State) (a0 : Array Value) (hw : ∀ d ∈ tables_1, d.before a0 Z = true) (ws : List Jvm.Cond) (a_CORRECT : Addr) (a_MISSING : Addr) (a_ABSENT : Addr) (a_WARNING : Addr) (a_INCORRECT : Addr) (a_CONFIRMED : Addr) (h0 : Heap) (n0 : Nat) (Z0 : n0 ≤ h0.size) (S_CORRECT : Sta Z h0 "com/example/fapiao_lens/fapiaolens/Status" "CORRECT" "Lcom/example/fapiao_lens/fapiaolens/Status;" (.ref a_CORRECT)) (E_CORRECT : Exa Z h0 a_CORRECT "com/example/fapiao_lens/fapiaolens/Status") (S_MISSING : Sta Z h0 "com/example/fapiao_lens/fapiaolens/Status" "MISSING" "Lcom/example/fapiao_lens/fapiaolens/Status;" (.ref a_MISSING)) (E_MISSING : Exa Z h0 a_MISSING "com/example/fapiao_lens/fapiaolens/Status") (S_ABSENT : Sta Z h0 "com/example/fapiao_lens/fapiaolens/Status" "ABSENT" "Lcom/example/fapiao_lens/fapiaolens/Status;" (.ref a_ABSENT)) (E_ABSENT : Exa Z h0 a_ABSENT "com/example/fapiao_lens/fapiaolens/Status") (S_WARNING : Sta Z h0 "com/example/fapiao_lens/fapiaolens/Status" "WARNING" "Lcom/example/fapiao_lens/fapiaolens/Status;" (.ref a_WARNING)) (E_WARNING : Exa Z h0 a_WARNING "com/example/fapiao_lens/fapiaolens/Status") (S_INCORRECT : Sta Z h0 "com/example/fapiao_lens/fapiaolens/Status" "INCORRECT" "Lcom/example/fapiao_lens/fapiaolens/Status;" (.ref a_INCORRECT)) (E_INCORRECT : Exa Z h0 a_INCORRECT "com/example/fapiao_lens/fapiaolens/Status") (S_CONFIRMED : Sta Z h0 "com/example/fapiao_lens/fapiaolens/Status" "CONFIRMED" "Lcom/example/fapiao_lens/fapiaolens/Status;" (.ref a_CONFIRMED)) (E_CONFIRMED : Exa Z h0 a_CONFIRMED "com/example/fapiao_lens/fapiaolens/Status") (F_CORRECT_ordinal : Fld Z h0 a_CORRECT "java/lang/Enum" "ordinal" "I" (.int (0 : Int32))) (F_MISSING_ordinal : Fld Z h0 a_MISSING "java/lang/Enum" "ordinal" "I" (.int (3 : Int32))) (F_ABSENT_ordinal : Fld Z h0 a_ABSENT "java/lang/Enum" "ordinal" "I" (.int (4 : Int32))) (F_WARNING_ordinal : Fld Z h0 a_WARNING "java/lang/Enum" "ordinal" "I" (.int (1 : Int32))) (F_INCORRECT_ordinal : Fld Z h0 a_INCORRECT "java/lang/Enum" "ordinal" "I" (.int (2 : Int32))) (F_CONFIRMED_ordinal : Fld Z h0 a_CONFIRMED "java/lang/Enum" "ordinal" "I" (.int (5 : Int32))) :
    MetFree l (⟨"com/example/fapiao_lens/fapiaolens/Status", "carriesValue", "()Z"⟩ : MethodName) (head1 (Jvm.Cond.code (⟨"com/example/fapiao_lens/fapiaolens/Status", "carriesValue", "()Z"⟩ : MethodName) prog_59_method_6_code 1 (some .boolean) :: ws) ({ frames := 0, cells := 0, slots := 0, locals := 0 } : Room)) (fun a U => a = #[(.ref a_CORRECT)] ∧ Z.Warmed39 U.vm ∧ U.heap = h0) (fun _ _ _ _ _ => True) (fun _ U o U' => ∃ v L, o = .returned v ∧ QP (.int (1 : Int32)) h0 n0 v U'.heap L ∧ FrameEnd U o U' L ({ frames := 0, cells := 0, slots := 0, locals := 0 } : Room).cells ({ frames := 0, cells := 0, slots := 0, locals := 0 } : Room).slots) := by
  refine MetFree.of_bodySF (plainFor_of_name own_pn1) hisR ?_
  intro p e s m args below meth c s₁ Bd hml0 hP hK
  obtain ⟨rfl, hZ, hh⟩ := hP
  have hx := Bd.exec
  have hby := Bd.bytes
  have hml : c.maxLocals = 1 := hml0
  have hown : s.vm.findClass "com/example/fapiao_lens/fapiaolens/Status" = some m.cls := findClass_of_methodNamed Bd.named
  have hnm := (name_of_methodNamed Bd.named Bd.method).1
  have X0 : Stand p l e ({ frames := 0, cells := 0, slots := 0, locals := 0 } : Room) s m #[(.ref a_CORRECT)] below meth c s₁ [] 0 0 := Stand.of_body Bd
  have e0 : s₁.heap = h0 := by rw [← hh, Bd.state]; rfl
  have N0 := Fr.nil n0
  have pre0 : ∀ t, Steps p.tables e below (s₁.setTop (mkF m 0 #[.val (.ref a_CORRECT)] [])) t → Steps p.tables e below (s₁.setTop (entryFrame m #[(.ref a_CORRECT)] 1)) t := fun t k => castTop (own_ef_rm2_0 m a_CORRECT) k
  obtain ⟨T1, X1, e1, st1⟩ := getS2 X0 hx hZ hown (host := "") (Or.inl (hw _ (List.mem_of_getElem? (i := 17) rfl))) Via.refl e0 S_CORRECT (g := (mkF m 1 #[.val (.ref a_CORRECT)] [(.ref a_CORRECT)])) rfl (hb hby own_d_prog_59_method_6_code_1)
  have pre2 : ∀ t, Steps p.tables e below (T1.setTop (mkF m 33 #[.val (.ref a_CORRECT)] [(.int (1 : Int32))])) t → Steps p.tables e below (s₁.setTop (entryFrame m #[(.ref a_CORRECT)] 1)) t := fun t k => pre0 t (by
    show Steps p.tables e below (s₁.setTop (mkF m 0 #[.val (.ref a_CORRECT)] [])) _
    refine XS.aloadN X0.here hx rfl (hb hby own_d_prog_59_method_6_code_0) rfl rfl ?_
    show Steps p.tables e below (s₁.setTop (mkF m 1 #[.val (.ref a_CORRECT)] [(.ref a_CORRECT)])) _
    refine st1 _ ?_
    show Steps p.tables e below (T1.setTop (mkF m 4 #[.val (.ref a_CORRECT)] [(.ref a_CORRECT), (.ref a_CORRECT)])) _
    refine Jvm.RoadKit.acmp (g := (mkF m 4 #[.val (.ref a_CORRECT)] [(.ref a_CORRECT), (.ref a_CORRECT)])) X1 hx rfl rfl rfl (pc0 := 4) (pc' := 28) (same := true) rfl (hb hby own_d_prog_59_method_6_code_4) rfl (decide_eq_true (rfl)) (by decide) (by decide) ?_
    show Steps p.tables e below (T1.setTop (mkF m 28 #[.val (.ref a_CORRECT)] [])) _
    refine XS.iconst X1.here hx rfl (hb hby own_d_prog_59_method_6_code_28) ?_
    show Steps p.tables e below (T1.setTop (mkF m 29 #[.val (.ref a_CORRECT)] [(.int (1 : Int32))])) _
    refine XS.goto X1.here hx rfl (pc0 := 29) (pc' := 33) rfl (hb hby own_d_prog_59_method_6_code_29) (by decide) (by decide) ?_
    exact k)
  obtain ⟨fs, hr, hrun, hended, hW, hsame⟩ := X1.leave (v := some (.int (nar .boolean (1 : Int32)))) (fun h => by rw [Bd.returns] at h; cases h)
  refine ⟨_, _, pre2 _ ?_, hrun, hended, _, _, rfl, ?_, ⟨_, rfl⟩, hW, hsame.mono (by decide) (by decide)⟩
  · show Steps p.tables e below (T1.setTop (mkF m 33 #[.val (.ref a_CORRECT)] [(.int (1 : Int32))])) _
    exact retN X1 hx (t := .boolean) Bd.returns (by simp) (hb hby own_d_prog_59_method_6_code_33) hr
  · show QP (.int (1 : Int32)) h0 n0 _ T1.heap _
    rw [e1]
    exact ⟨rfl, N0, rfl⟩
theorem own_ef_rm1_1 (m : MethodId) (y0 : Int32) : entryFrame m #[(.int y0)] 1 = mkF m 0 #[.val (.int y0)] [] := by first | (simp [entryFrame, mkF, argsToLocals, Value.category]; done) | rfl
set_option maxRecDepth 65536 in
set_option maxHeartbeats 40000000 in
theorem rm1_1 (l : Launch) (Z : State) (a0 : Array Value) (hw : ∀ d ∈ tables_1, d.before a0 Z = true) (ws : List Jvm.Cond) (a_CORRECT : Addr) (a_MISSING : Addr) (a_ABSENT : Addr) (a_WARNING : Addr) (a_INCORRECT : Addr) (a_CONFIRMED : Addr) (h0 : Heap) (n0 : Nat) (Z0 : n0 ≤ h0.size) (S_CORRECT : Sta Z h0 "com/example/fapiao_lens/fapiaolens/Status" "CORRECT" "Lcom/example/fapiao_lens/fapiaolens/Status;" (.ref a_CORRECT)) (E_CORRECT : Exa Z h0 a_CORRECT "com/example/fapiao_lens/fapiaolens/Status") (S_MISSING : Sta Z h0 "com/example/fapiao_lens/fapiaolens/Status" "MISSING" "Lcom/example/fapiao_lens/fapiaolens/Status;" (.ref a_MISSING)) (E_MISSING : Exa Z h0 a_MISSING "com/example/fapiao_lens/fapiaolens/Status") (S_ABSENT : Sta Z h0 "com/example/fapiao_lens/fapiaolens/Status" "ABSENT" "Lcom/example/fapiao_lens/fapiaolens/Status;" (.ref a_ABSENT)) (E_ABSENT : Exa Z h0 a_ABSENT "com/example/fapiao_lens/fapiaolens/Status") (S_WARNING : Sta Z h0 "com/example/fapiao_lens/fapiaolens/Status" "WARNING" "Lcom/example/fapiao_lens/fapiaolens/Status;" (.ref a_WARNING)) (E_WARNING : Exa Z h0 a_WARNING "com/example/fapiao_lens/fapiaolens/Status") (S_INCORRECT : Sta Z h0 "com/example/fapiao_lens/fapiaolens/Status" "INCORRECT" "Lcom/example/fapiao_lens/fapiaolens/Status;" (.ref a_INCORRECT)) (E_INCORRECT : Exa Z h0 a_INCORRECT "com/example/fapiao_lens/fapiaolens/Status") (S_CONFIRMED : Sta Z h0 "com/example/fapiao_lens/fapiaolens/Status" "CONFIRMED" "Lcom/example/fapiao_lens/fapiaolens/Status;" (.ref a_CONFIRMED)) (E_CONFIRMED : Exa Z h0 a_CONFIRMED "com/example/fapiao_lens/fapiaolens/Status") (F_CORRECT_ordinal : Fld Z h0 a_CORRECT "java/lang/Enum" "ordinal" "I" (.int (0 : Int32))) (F_MISSING_ordinal : Fld Z h0 a_MISSING "java/lang/Enum" "ordinal" "I" (.int (3 : Int32))) (F_ABSENT_ordinal : Fld Z h0 a_ABSENT "java/lang/Enum" "ordinal" "I" (.int (4 : Int32))) (F_WARNING_ordinal : Fld Z h0 a_WARNING "java/lang/Enum" "ordinal" "I" (.int (1 : Int32))) (F_INCORRECT_ordinal : Fld Z h0 a_INCORRECT "java/lang/Enum" "ordinal" "I" (.int (2 : Int32))) (F_CONFIRMED_ordinal : Fld Z h0 a_CONFIRMED "java/lang/Enum" "ordinal" "I" (.int (5 : Int32))) :
    MetFree l (⟨"com/example/fapiao_lens/fapiaolens/StatusCarriesValuePinLaw", "pick", "(I)Lcom/example/fapiao_lens/fapiaolens/Status;"⟩ : MethodName) (head1 (Jvm.Cond.code (⟨"com/example/fapiao_lens/fapiaolens/StatusCarriesValuePinLaw", "pick", "(I)Lcom/example/fapiao_lens/fapiaolens/Status;"⟩ : MethodName) method_2_code 1 (some (.object "com/example/fapiao_lens/fapiaolens/Status")) :: ws) ({ frames := 0, cells := 0, slots := 0, locals := 0 } : Room)) (fun a U => a = #[(.int (1 : Int32))] ∧ Z.Warmed39 U.vm ∧ U.heap = h0) (fun _ _ _ _ _ => True) (fun _ U o U' => ∃ v L, o = .returned v ∧ QP (.ref a_WARNING) h0 n0 v U'.heap L ∧ FrameEnd U o U' L ({ frames := 0, cells := 0, slots := 0, locals := 0 } : Room).cells ({ frames := 0, cells := 0, slots := 0, locals := 0 } : Room).slots) := by
  refine MetFree.of_bodySF (plainFor_of_name own_pn0) hisR ?_
  intro p e s m args below meth c s₁ Bd hml0 hP hK
  obtain ⟨rfl, hZ, hh⟩ := hP
  have hx := Bd.exec
  have hby := Bd.bytes
  have hml : c.maxLocals = 1 := hml0
  have hown : s.vm.findClass "com/example/fapiao_lens/fapiaolens/StatusCarriesValuePinLaw" = some m.cls := findClass_of_methodNamed Bd.named
  have hnm := (name_of_methodNamed Bd.named Bd.method).1
  have X0 : Stand p l e ({ frames := 0, cells := 0, slots := 0, locals := 0 } : Room) s m #[(.int (1 : Int32))] below meth c s₁ [] 0 0 := Stand.of_body Bd
  have e0 : s₁.heap = h0 := by rw [← hh, Bd.state]; rfl
  have N0 := Fr.nil n0
  have pre0 : ∀ t, Steps p.tables e below (s₁.setTop (mkF m 0 #[.val (.int (1 : Int32))] [])) t → Steps p.tables e below (s₁.setTop (entryFrame m #[(.int (1 : Int32))] 1)) t := fun t k => castTop (own_ef_rm1_1 m (1 : Int32)) k
  obtain ⟨T1, X1, e1, st1⟩ := getS2 X0 hx hZ hown (host := "") (Or.inl (hw _ (List.mem_of_getElem? (i := 25) rfl))) Via.refl e0 S_WARNING (g := (mkF m 13 #[.val (.int (1 : Int32))] [])) rfl (hb hby own_d_method_2_code_13)
  have pre2 : ∀ t, Steps p.tables e below (T1.setTop (mkF m 16 #[.val (.int (1 : Int32))] [(.ref a_WARNING)])) t → Steps p.tables e below (s₁.setTop (entryFrame m #[(.int (1 : Int32))] 1)) t := fun t k => pre0 t (by
    show Steps p.tables e below (s₁.setTop (mkF m 0 #[.val (.int (1 : Int32))] [])) _
    refine XS.iloadN X0.here hx rfl (hb hby own_d_method_2_code_0) rfl ?_
    show Steps p.tables e below (s₁.setTop (mkF m 1 #[.val (.int (1 : Int32))] [(.int (1 : Int32))])) _
    refine XS.ifYes X0.here hx rfl (pc0 := 1) (pc' := 8) rfl (hb hby own_d_method_2_code_1) rfl ((if0 _ _).trans (feq ((by decide) : ¬ ((1 : Int32) = (0 : Int32)))).2) (by decide) (by decide) ?_
    show Steps p.tables e below (s₁.setTop (mkF m 8 #[.val (.int (1 : Int32))] [])) _
    refine XS.iloadN X0.here hx rfl (hb hby own_d_method_2_code_8) rfl ?_
    show Steps p.tables e below (s₁.setTop (mkF m 9 #[.val (.int (1 : Int32))] [(.int (1 : Int32))])) _
    refine XS.iconst X0.here hx rfl (hb hby own_d_method_2_code_9) ?_
    show Steps p.tables e below (s₁.setTop (mkF m 10 #[.val (.int (1 : Int32))] [(.int (1 : Int32)), (.int (1 : Int32))])) _
    refine XS.icmpNo X0.here hx rfl (hb hby own_d_method_2_code_10) rfl (teq ((by decide) : (1 : Int32) = (1 : Int32))).2 ?_
    show Steps p.tables e below (s₁.setTop (mkF m 13 #[.val (.int (1 : Int32))] [])) _
    refine st1 _ ?_
    exact k)
  obtain ⟨fs, hr, hrun, hended, hW, hsame⟩ := X1.leave (v := some (.ref a_WARNING)) (fun h => by rw [Bd.returns] at h; cases h)
  refine ⟨_, _, pre2 _ ?_, hrun, hended, _, _, rfl, ?_, ⟨_, rfl⟩, hW, hsame.mono (by decide) (by decide)⟩
  · show Steps p.tables e below (T1.setTop (mkF m 16 #[.val (.int (1 : Int32))] [(.ref a_WARNING)])) _
    exact retOut X1 hx (t := (.object "com/example/fapiao_lens/fapiaolens/Status")) (i := .areturn) Bd.returns rfl (Or.inr (Or.inr (Or.inr (Or.inr ⟨rfl, rfl, rfl⟩)))) (hb hby own_d_method_2_code_16) hr
  · show QP (.ref a_WARNING) h0 n0 _ T1.heap _
    rw [e1]
    exact ⟨rfl, N0, rfl⟩
theorem own_ef_rm2_1 (m : MethodId) (y0 : Addr) : entryFrame m #[(.ref y0)] 1 = mkF m 0 #[.val (.ref y0)] [] := by first | (simp [entryFrame, mkF, argsToLocals, Value.category]; done) | rfl
set_option maxRecDepth 65536 in
set_option maxHeartbeats 40000000 in
theorem rm2_1 (l : Launch) (Z : State) (a0 : Array Value) (hw : ∀ d ∈ tables_1, d.before a0 Z = true) (ws : List Jvm.Cond) (a_CORRECT : Addr) (a_MISSING : Addr) (a_ABSENT : Addr) (a_WARNING : Addr) (a_INCORRECT : Addr) (a_CONFIRMED : Addr) (h0 : Heap) (n0 : Nat) (Z0 : n0 ≤ h0.size) (S_CORRECT : Sta Z h0 "com/example/fapiao_lens/fapiaolens/Status" "CORRECT" "Lcom/example/fapiao_lens/fapiaolens/Status;" (.ref a_CORRECT)) (E_CORRECT : Exa Z h0 a_CORRECT "com/example/fapiao_lens/fapiaolens/Status") (S_MISSING : Sta Z h0 "com/example/fapiao_lens/fapiaolens/Status" "MISSING" "Lcom/example/fapiao_lens/fapiaolens/Status;" (.ref a_MISSING)) (E_MISSING : Exa Z h0 a_MISSING "com/example/fapiao_lens/fapiaolens/Status") (S_ABSENT : Sta Z h0 "com/example/fapiao_lens/fapiaolens/Status" "ABSENT" "Lcom/example/fapiao_lens/fapiaolens/Status;" (.ref a_ABSENT)) (E_ABSENT : Exa Z h0 a_ABSENT "com/example/fapiao_lens/fapiaolens/Status") (S_WARNING : Sta Z h0 "com/example/fapiao_lens/fapiaolens/Status" "WARNING" "Lcom/example/fapiao_lens/fapiaolens/Status;" (.ref a_WARNING)) (E_WARNING : Exa Z h0 a_WARNING "com/example/fapiao_lens/fapiaolens/Status") (S_INCORRECT : Sta Z h0 "com/example/fapiao_lens/fapiaolens/Status" "INCORRECT" "Lcom/example/fapiao_lens/fapiaolens/Status;" (.ref a_INCORRECT)) (E_INCORRECT : Exa Z h0 a_INCORRECT "com/example/fapiao_lens/fapiaolens/Status") (S_CONFIRMED : Sta Z h0 "com/example/fapiao_lens/fapiaolens/Status" "CONFIRMED" "Lcom/example/fapiao_lens/fapiaolens/Status;" (.ref a_CONFIRMED)) (E_CONFIRMED : Exa Z h0 a_CONFIRMED "com/example/fapiao_lens/fapiaolens/Status") (F_CORRECT_ordinal : Fld Z h0 a_CORRECT "java/lang/Enum" "ordinal" "I" (.int (0 : Int32))) (F_MISSING_ordinal : Fld Z h0 a_MISSING "java/lang/Enum" "ordinal" "I" (.int (3 : Int32))) (F_ABSENT_ordinal : Fld Z h0 a_ABSENT "java/lang/Enum" "ordinal" "I" (.int (4 : Int32))) (F_WARNING_ordinal : Fld Z h0 a_WARNING "java/lang/Enum" "ordinal" "I" (.int (1 : Int32))) (F_INCORRECT_ordinal : Fld Z h0 a_INCORRECT "java/lang/Enum" "ordinal" "I" (.int (2 : Int32))) (F_CONFIRMED_ordinal : Fld Z h0 a_CONFIRMED "java/lang/Enum" "ordinal" "I" (.int (5 : Int32))) :
    MetFree l (⟨"com/example/fapiao_lens/fapiaolens/Status", "carriesValue", "()Z"⟩ : MethodName) (head1 (Jvm.Cond.code (⟨"com/example/fapiao_lens/fapiaolens/Status", "carriesValue", "()Z"⟩ : MethodName) prog_59_method_6_code 1 (some .boolean) :: ws) ({ frames := 0, cells := 0, slots := 0, locals := 0 } : Room)) (fun a U => a = #[(.ref a_WARNING)] ∧ Z.Warmed39 U.vm ∧ U.heap = h0) (fun _ _ _ _ _ => True) (fun _ U o U' => ∃ v L, o = .returned v ∧ QP (.int (1 : Int32)) h0 n0 v U'.heap L ∧ FrameEnd U o U' L ({ frames := 0, cells := 0, slots := 0, locals := 0 } : Room).cells ({ frames := 0, cells := 0, slots := 0, locals := 0 } : Room).slots) := by
  refine MetFree.of_bodySF (plainFor_of_name own_pn1) hisR ?_
  intro p e s m args below meth c s₁ Bd hml0 hP hK
  obtain ⟨rfl, hZ, hh⟩ := hP
  have hx := Bd.exec
  have hby := Bd.bytes
  have hml : c.maxLocals = 1 := hml0
  have hown : s.vm.findClass "com/example/fapiao_lens/fapiaolens/Status" = some m.cls := findClass_of_methodNamed Bd.named
  have hnm := (name_of_methodNamed Bd.named Bd.method).1
  have X0 : Stand p l e ({ frames := 0, cells := 0, slots := 0, locals := 0 } : Room) s m #[(.ref a_WARNING)] below meth c s₁ [] 0 0 := Stand.of_body Bd
  have e0 : s₁.heap = h0 := by rw [← hh, Bd.state]; rfl
  have N0 := Fr.nil n0
  have pre0 : ∀ t, Steps p.tables e below (s₁.setTop (mkF m 0 #[.val (.ref a_WARNING)] [])) t → Steps p.tables e below (s₁.setTop (entryFrame m #[(.ref a_WARNING)] 1)) t := fun t k => castTop (own_ef_rm2_1 m a_WARNING) k
  obtain ⟨T1, X1, e1, st1⟩ := getS2 X0 hx hZ hown (host := "") (Or.inl (hw _ (List.mem_of_getElem? (i := 17) rfl))) Via.refl e0 S_CORRECT (g := (mkF m 1 #[.val (.ref a_WARNING)] [(.ref a_WARNING)])) rfl (hb hby own_d_prog_59_method_6_code_1)
  obtain ⟨T2, X2, e2, st2⟩ := getS2 X1 hx hZ hown (host := "") (Or.inl (hw _ (List.mem_of_getElem? (i := 18) rfl))) Via.refl e1 S_WARNING (g := (mkF m 8 #[.val (.ref a_WARNING)] [(.ref a_WARNING)])) rfl (hb hby own_d_prog_59_method_6_code_8)
  have pre3 : ∀ t, Steps p.tables e below (T2.setTop (mkF m 33 #[.val (.ref a_WARNING)] [(.int (1 : Int32))])) t → Steps p.tables e below (s₁.setTop (entryFrame m #[(.ref a_WARNING)] 1)) t := fun t k => pre0 t (by
    show Steps p.tables e below (s₁.setTop (mkF m 0 #[.val (.ref a_WARNING)] [])) _
    refine XS.aloadN X0.here hx rfl (hb hby own_d_prog_59_method_6_code_0) rfl rfl ?_
    show Steps p.tables e below (s₁.setTop (mkF m 1 #[.val (.ref a_WARNING)] [(.ref a_WARNING)])) _
    refine st1 _ ?_
    show Steps p.tables e below (T1.setTop (mkF m 4 #[.val (.ref a_WARNING)] [(.ref a_CORRECT), (.ref a_WARNING)])) _
    refine Jvm.RoadKit.acmp (g := (mkF m 4 #[.val (.ref a_WARNING)] [(.ref a_CORRECT), (.ref a_WARNING)])) X1 hx rfl rfl rfl (pc0 := 4) (pc' := 7) (same := false) rfl (hb hby own_d_prog_59_method_6_code_4) rfl (decide_eq_false fun q => ((Fld.ne F_WARNING_ordinal F_CORRECT_ordinal (by decide)) : ¬ (a_WARNING = a_CORRECT)) (Value.ref.inj q)) (by decide) (by decide) ?_
    show Steps p.tables e below (T1.setTop (mkF m 7 #[.val (.ref a_WARNING)] [])) _
    refine XS.aloadN X1.here hx rfl (hb hby own_d_prog_59_method_6_code_7) rfl rfl ?_
    show Steps p.tables e below (T1.setTop (mkF m 8 #[.val (.ref a_WARNING)] [(.ref a_WARNING)])) _
    refine st2 _ ?_
    show Steps p.tables e below (T2.setTop (mkF m 11 #[.val (.ref a_WARNING)] [(.ref a_WARNING), (.ref a_WARNING)])) _
    refine Jvm.RoadKit.acmp (g := (mkF m 11 #[.val (.ref a_WARNING)] [(.ref a_WARNING), (.ref a_WARNING)])) X2 hx rfl rfl rfl (pc0 := 11) (pc' := 28) (same := true) rfl (hb hby own_d_prog_59_method_6_code_11) rfl (decide_eq_true (rfl)) (by decide) (by decide) ?_
    show Steps p.tables e below (T2.setTop (mkF m 28 #[.val (.ref a_WARNING)] [])) _
    refine XS.iconst X2.here hx rfl (hb hby own_d_prog_59_method_6_code_28) ?_
    show Steps p.tables e below (T2.setTop (mkF m 29 #[.val (.ref a_WARNING)] [(.int (1 : Int32))])) _
    refine XS.goto X2.here hx rfl (pc0 := 29) (pc' := 33) rfl (hb hby own_d_prog_59_method_6_code_29) (by decide) (by decide) ?_
    exact k)
  obtain ⟨fs, hr, hrun, hended, hW, hsame⟩ := X2.leave (v := some (.int (nar .boolean (1 : Int32)))) (fun h => by rw [Bd.returns] at h; cases h)
  refine ⟨_, _, pre3 _ ?_, hrun, hended, _, _, rfl, ?_, ⟨_, rfl⟩, hW, hsame.mono (by decide) (by decide)⟩
  · show Steps p.tables e below (T2.setTop (mkF m 33 #[.val (.ref a_WARNING)] [(.int (1 : Int32))])) _
    exact retN X2 hx (t := .boolean) Bd.returns (by simp) (hb hby own_d_prog_59_method_6_code_33) hr
  · show QP (.int (1 : Int32)) h0 n0 _ T2.heap _
    rw [e2]
    exact ⟨rfl, N0, rfl⟩
theorem own_ef_rm1_2 (m : MethodId) (y0 : Int32) : entryFrame m #[(.int y0)] 1 = mkF m 0 #[.val (.int y0)] [] := by first | (simp [entryFrame, mkF, argsToLocals, Value.category]; done) | rfl
set_option maxRecDepth 65536 in
set_option maxHeartbeats 40000000 in
theorem rm1_2 (l : Launch) (Z : State) (a0 : Array Value) (hw : ∀ d ∈ tables_1, d.before a0 Z = true) (ws : List Jvm.Cond) (a_CORRECT : Addr) (a_MISSING : Addr) (a_ABSENT : Addr) (a_WARNING : Addr) (a_INCORRECT : Addr) (a_CONFIRMED : Addr) (h0 : Heap) (n0 : Nat) (Z0 : n0 ≤ h0.size) (S_CORRECT : Sta Z h0 "com/example/fapiao_lens/fapiaolens/Status" "CORRECT" "Lcom/example/fapiao_lens/fapiaolens/Status;" (.ref a_CORRECT)) (E_CORRECT : Exa Z h0 a_CORRECT "com/example/fapiao_lens/fapiaolens/Status") (S_MISSING : Sta Z h0 "com/example/fapiao_lens/fapiaolens/Status" "MISSING" "Lcom/example/fapiao_lens/fapiaolens/Status;" (.ref a_MISSING)) (E_MISSING : Exa Z h0 a_MISSING "com/example/fapiao_lens/fapiaolens/Status") (S_ABSENT : Sta Z h0 "com/example/fapiao_lens/fapiaolens/Status" "ABSENT" "Lcom/example/fapiao_lens/fapiaolens/Status;" (.ref a_ABSENT)) (E_ABSENT : Exa Z h0 a_ABSENT "com/example/fapiao_lens/fapiaolens/Status") (S_WARNING : Sta Z h0 "com/example/fapiao_lens/fapiaolens/Status" "WARNING" "Lcom/example/fapiao_lens/fapiaolens/Status;" (.ref a_WARNING)) (E_WARNING : Exa Z h0 a_WARNING "com/example/fapiao_lens/fapiaolens/Status") (S_INCORRECT : Sta Z h0 "com/example/fapiao_lens/fapiaolens/Status" "INCORRECT" "Lcom/example/fapiao_lens/fapiaolens/Status;" (.ref a_INCORRECT)) (E_INCORRECT : Exa Z h0 a_INCORRECT "com/example/fapiao_lens/fapiaolens/Status") (S_CONFIRMED : Sta Z h0 "com/example/fapiao_lens/fapiaolens/Status" "CONFIRMED" "Lcom/example/fapiao_lens/fapiaolens/Status;" (.ref a_CONFIRMED)) (E_CONFIRMED : Exa Z h0 a_CONFIRMED "com/example/fapiao_lens/fapiaolens/Status") (F_CORRECT_ordinal : Fld Z h0 a_CORRECT "java/lang/Enum" "ordinal" "I" (.int (0 : Int32))) (F_MISSING_ordinal : Fld Z h0 a_MISSING "java/lang/Enum" "ordinal" "I" (.int (3 : Int32))) (F_ABSENT_ordinal : Fld Z h0 a_ABSENT "java/lang/Enum" "ordinal" "I" (.int (4 : Int32))) (F_WARNING_ordinal : Fld Z h0 a_WARNING "java/lang/Enum" "ordinal" "I" (.int (1 : Int32))) (F_INCORRECT_ordinal : Fld Z h0 a_INCORRECT "java/lang/Enum" "ordinal" "I" (.int (2 : Int32))) (F_CONFIRMED_ordinal : Fld Z h0 a_CONFIRMED "java/lang/Enum" "ordinal" "I" (.int (5 : Int32))) :
    MetFree l (⟨"com/example/fapiao_lens/fapiaolens/StatusCarriesValuePinLaw", "pick", "(I)Lcom/example/fapiao_lens/fapiaolens/Status;"⟩ : MethodName) (head1 (Jvm.Cond.code (⟨"com/example/fapiao_lens/fapiaolens/StatusCarriesValuePinLaw", "pick", "(I)Lcom/example/fapiao_lens/fapiaolens/Status;"⟩ : MethodName) method_2_code 1 (some (.object "com/example/fapiao_lens/fapiaolens/Status")) :: ws) ({ frames := 0, cells := 0, slots := 0, locals := 0 } : Room)) (fun a U => a = #[(.int (2 : Int32))] ∧ Z.Warmed39 U.vm ∧ U.heap = h0) (fun _ _ _ _ _ => True) (fun _ U o U' => ∃ v L, o = .returned v ∧ QP (.ref a_INCORRECT) h0 n0 v U'.heap L ∧ FrameEnd U o U' L ({ frames := 0, cells := 0, slots := 0, locals := 0 } : Room).cells ({ frames := 0, cells := 0, slots := 0, locals := 0 } : Room).slots) := by
  refine MetFree.of_bodySF (plainFor_of_name own_pn0) hisR ?_
  intro p e s m args below meth c s₁ Bd hml0 hP hK
  obtain ⟨rfl, hZ, hh⟩ := hP
  have hx := Bd.exec
  have hby := Bd.bytes
  have hml : c.maxLocals = 1 := hml0
  have hown : s.vm.findClass "com/example/fapiao_lens/fapiaolens/StatusCarriesValuePinLaw" = some m.cls := findClass_of_methodNamed Bd.named
  have hnm := (name_of_methodNamed Bd.named Bd.method).1
  have X0 : Stand p l e ({ frames := 0, cells := 0, slots := 0, locals := 0 } : Room) s m #[(.int (2 : Int32))] below meth c s₁ [] 0 0 := Stand.of_body Bd
  have e0 : s₁.heap = h0 := by rw [← hh, Bd.state]; rfl
  have N0 := Fr.nil n0
  have pre0 : ∀ t, Steps p.tables e below (s₁.setTop (mkF m 0 #[.val (.int (2 : Int32))] [])) t → Steps p.tables e below (s₁.setTop (entryFrame m #[(.int (2 : Int32))] 1)) t := fun t k => castTop (own_ef_rm1_2 m (2 : Int32)) k
  obtain ⟨T1, X1, e1, st1⟩ := getS2 X0 hx hZ hown (host := "") (Or.inl (hw _ (List.mem_of_getElem? (i := 24) rfl))) Via.refl e0 S_INCORRECT (g := (mkF m 22 #[.val (.int (2 : Int32))] [])) rfl (hb hby own_d_method_2_code_22)
  have pre2 : ∀ t, Steps p.tables e below (T1.setTop (mkF m 25 #[.val (.int (2 : Int32))] [(.ref a_INCORRECT)])) t → Steps p.tables e below (s₁.setTop (entryFrame m #[(.int (2 : Int32))] 1)) t := fun t k => pre0 t (by
    show Steps p.tables e below (s₁.setTop (mkF m 0 #[.val (.int (2 : Int32))] [])) _
    refine XS.iloadN X0.here hx rfl (hb hby own_d_method_2_code_0) rfl ?_
    show Steps p.tables e below (s₁.setTop (mkF m 1 #[.val (.int (2 : Int32))] [(.int (2 : Int32))])) _
    refine XS.ifYes X0.here hx rfl (pc0 := 1) (pc' := 8) rfl (hb hby own_d_method_2_code_1) rfl ((if0 _ _).trans (feq ((by decide) : ¬ ((2 : Int32) = (0 : Int32)))).2) (by decide) (by decide) ?_
    show Steps p.tables e below (s₁.setTop (mkF m 8 #[.val (.int (2 : Int32))] [])) _
    refine XS.iloadN X0.here hx rfl (hb hby own_d_method_2_code_8) rfl ?_
    show Steps p.tables e below (s₁.setTop (mkF m 9 #[.val (.int (2 : Int32))] [(.int (2 : Int32))])) _
    refine XS.iconst X0.here hx rfl (hb hby own_d_method_2_code_9) ?_
    show Steps p.tables e below (s₁.setTop (mkF m 10 #[.val (.int (2 : Int32))] [(.int (1 : Int32)), (.int (2 : Int32))])) _
    refine XS.icmpYes X0.here hx rfl (pc0 := 10) (pc' := 17) rfl (hb hby own_d_method_2_code_10) rfl (feq ((by decide) : ¬ ((2 : Int32) = (1 : Int32)))).2 (by decide) (by decide) ?_
    show Steps p.tables e below (s₁.setTop (mkF m 17 #[.val (.int (2 : Int32))] [])) _
    refine XS.iloadN X0.here hx rfl (hb hby own_d_method_2_code_17) rfl ?_
    show Steps p.tables e below (s₁.setTop (mkF m 18 #[.val (.int (2 : Int32))] [(.int (2 : Int32))])) _
    refine XS.iconst X0.here hx rfl (hb hby own_d_method_2_code_18) ?_
    show Steps p.tables e below (s₁.setTop (mkF m 19 #[.val (.int (2 : Int32))] [(.int (2 : Int32)), (.int (2 : Int32))])) _
    refine XS.icmpNo X0.here hx rfl (hb hby own_d_method_2_code_19) rfl (teq ((by decide) : (2 : Int32) = (2 : Int32))).2 ?_
    show Steps p.tables e below (s₁.setTop (mkF m 22 #[.val (.int (2 : Int32))] [])) _
    refine st1 _ ?_
    exact k)
  obtain ⟨fs, hr, hrun, hended, hW, hsame⟩ := X1.leave (v := some (.ref a_INCORRECT)) (fun h => by rw [Bd.returns] at h; cases h)
  refine ⟨_, _, pre2 _ ?_, hrun, hended, _, _, rfl, ?_, ⟨_, rfl⟩, hW, hsame.mono (by decide) (by decide)⟩
  · show Steps p.tables e below (T1.setTop (mkF m 25 #[.val (.int (2 : Int32))] [(.ref a_INCORRECT)])) _
    exact retOut X1 hx (t := (.object "com/example/fapiao_lens/fapiaolens/Status")) (i := .areturn) Bd.returns rfl (Or.inr (Or.inr (Or.inr (Or.inr ⟨rfl, rfl, rfl⟩)))) (hb hby own_d_method_2_code_25) hr
  · show QP (.ref a_INCORRECT) h0 n0 _ T1.heap _
    rw [e1]
    exact ⟨rfl, N0, rfl⟩
theorem own_ef_rm2_2 (m : MethodId) (y0 : Addr) : entryFrame m #[(.ref y0)] 1 = mkF m 0 #[.val (.ref y0)] [] := by first | (simp [entryFrame, mkF, argsToLocals, Value.category]; done) | rfl
set_option maxRecDepth 65536 in
set_option maxHeartbeats 40000000 in
theorem rm2_2 (l : Launch) (Z : State) (a0 : Array Value) (hw : ∀ d ∈ tables_1, d.before a0 Z = true) (ws : List Jvm.Cond) (a_CORRECT : Addr) (a_MISSING : Addr) (a_ABSENT : Addr) (a_WARNING : Addr) (a_INCORRECT : Addr) (a_CONFIRMED : Addr) (h0 : Heap) (n0 : Nat) (Z0 : n0 ≤ h0.size) (S_CORRECT : Sta Z h0 "com/example/fapiao_lens/fapiaolens/Status" "CORRECT" "Lcom/example/fapiao_lens/fapiaolens/Status;" (.ref a_CORRECT)) (E_CORRECT : Exa Z h0 a_CORRECT "com/example/fapiao_lens/fapiaolens/Status") (S_MISSING : Sta Z h0 "com/example/fapiao_lens/fapiaolens/Status" "MISSING" "Lcom/example/fapiao_lens/fapiaolens/Status;" (.ref a_MISSING)) (E_MISSING : Exa Z h0 a_MISSING "com/example/fapiao_lens/fapiaolens/Status") (S_ABSENT : Sta Z h0 "com/example/fapiao_lens/fapiaolens/Status" "ABSENT" "Lcom/example/fapiao_lens/fapiaolens/Status;" (.ref a_ABSENT)) (E_ABSENT : Exa Z h0 a_ABSENT "com/example/fapiao_lens/fapiaolens/Status") (S_WARNING : Sta Z h0 "com/example/fapiao_lens/fapiaolens/Status" "WARNING" "Lcom/example/fapiao_lens/fapiaolens/Status;" (.ref a_WARNING)) (E_WARNING : Exa Z h0 a_WARNING "com/example/fapiao_lens/fapiaolens/Status") (S_INCORRECT : Sta Z h0 "com/example/fapiao_lens/fapiaolens/Status" "INCORRECT" "Lcom/example/fapiao_lens/fapiaolens/Status;" (.ref a_INCORRECT)) (E_INCORRECT : Exa Z h0 a_INCORRECT "com/example/fapiao_lens/fapiaolens/Status") (S_CONFIRMED : Sta Z h0 "com/example/fapiao_lens/fapiaolens/Status" "CONFIRMED" "Lcom/example/fapiao_lens/fapiaolens/Status;" (.ref a_CONFIRMED)) (E_CONFIRMED : Exa Z h0 a_CONFIRMED "com/example/fapiao_lens/fapiaolens/Status") (F_CORRECT_ordinal : Fld Z h0 a_CORRECT "java/lang/Enum" "ordinal" "I" (.int (0 : Int32))) (F_MISSING_ordinal : Fld Z h0 a_MISSING "java/lang/Enum" "ordinal" "I" (.int (3 : Int32))) (F_ABSENT_ordinal : Fld Z h0 a_ABSENT "java/lang/Enum" "ordinal" "I" (.int (4 : Int32))) (F_WARNING_ordinal : Fld Z h0 a_WARNING "java/lang/Enum" "ordinal" "I" (.int (1 : Int32))) (F_INCORRECT_ordinal : Fld Z h0 a_INCORRECT "java/lang/Enum" "ordinal" "I" (.int (2 : Int32))) (F_CONFIRMED_ordinal : Fld Z h0 a_CONFIRMED "java/lang/Enum" "ordinal" "I" (.int (5 : Int32))) :
    MetFree l (⟨"com/example/fapiao_lens/fapiaolens/Status", "carriesValue", "()Z"⟩ : MethodName) (head1 (Jvm.Cond.code (⟨"com/example/fapiao_lens/fapiaolens/Status", "carriesValue", "()Z"⟩ : MethodName) prog_59_method_6_code 1 (some .boolean) :: ws) ({ frames := 0, cells := 0, slots := 0, locals := 0 } : Room)) (fun a U => a = #[(.ref a_INCORRECT)] ∧ Z.Warmed39 U.vm ∧ U.heap = h0) (fun _ _ _ _ _ => True) (fun _ U o U' => ∃ v L, o = .returned v ∧ QP (.int (1 : Int32)) h0 n0 v U'.heap L ∧ FrameEnd U o U' L ({ frames := 0, cells := 0, slots := 0, locals := 0 } : Room).cells ({ frames := 0, cells := 0, slots := 0, locals := 0 } : Room).slots) := by
  refine MetFree.of_bodySF (plainFor_of_name own_pn1) hisR ?_
  intro p e s m args below meth c s₁ Bd hml0 hP hK
  obtain ⟨rfl, hZ, hh⟩ := hP
  have hx := Bd.exec
  have hby := Bd.bytes
  have hml : c.maxLocals = 1 := hml0
  have hown : s.vm.findClass "com/example/fapiao_lens/fapiaolens/Status" = some m.cls := findClass_of_methodNamed Bd.named
  have hnm := (name_of_methodNamed Bd.named Bd.method).1
  have X0 : Stand p l e ({ frames := 0, cells := 0, slots := 0, locals := 0 } : Room) s m #[(.ref a_INCORRECT)] below meth c s₁ [] 0 0 := Stand.of_body Bd
  have e0 : s₁.heap = h0 := by rw [← hh, Bd.state]; rfl
  have N0 := Fr.nil n0
  have pre0 : ∀ t, Steps p.tables e below (s₁.setTop (mkF m 0 #[.val (.ref a_INCORRECT)] [])) t → Steps p.tables e below (s₁.setTop (entryFrame m #[(.ref a_INCORRECT)] 1)) t := fun t k => castTop (own_ef_rm2_2 m a_INCORRECT) k
  obtain ⟨T1, X1, e1, st1⟩ := getS2 X0 hx hZ hown (host := "") (Or.inl (hw _ (List.mem_of_getElem? (i := 17) rfl))) Via.refl e0 S_CORRECT (g := (mkF m 1 #[.val (.ref a_INCORRECT)] [(.ref a_INCORRECT)])) rfl (hb hby own_d_prog_59_method_6_code_1)
  obtain ⟨T2, X2, e2, st2⟩ := getS2 X1 hx hZ hown (host := "") (Or.inl (hw _ (List.mem_of_getElem? (i := 18) rfl))) Via.refl e1 S_WARNING (g := (mkF m 8 #[.val (.ref a_INCORRECT)] [(.ref a_INCORRECT)])) rfl (hb hby own_d_prog_59_method_6_code_8)
  obtain ⟨T3, X3, e3, st3⟩ := getS2 X2 hx hZ hown (host := "") (Or.inl (hw _ (List.mem_of_getElem? (i := 20) rfl))) Via.refl e2 S_INCORRECT (g := (mkF m 15 #[.val (.ref a_INCORRECT)] [(.ref a_INCORRECT)])) rfl (hb hby own_d_prog_59_method_6_code_15)
  have pre4 : ∀ t, Steps p.tables e below (T3.setTop (mkF m 33 #[.val (.ref a_INCORRECT)] [(.int (1 : Int32))])) t → Steps p.tables e below (s₁.setTop (entryFrame m #[(.ref a_INCORRECT)] 1)) t := fun t k => pre0 t (by
    show Steps p.tables e below (s₁.setTop (mkF m 0 #[.val (.ref a_INCORRECT)] [])) _
    refine XS.aloadN X0.here hx rfl (hb hby own_d_prog_59_method_6_code_0) rfl rfl ?_
    show Steps p.tables e below (s₁.setTop (mkF m 1 #[.val (.ref a_INCORRECT)] [(.ref a_INCORRECT)])) _
    refine st1 _ ?_
    show Steps p.tables e below (T1.setTop (mkF m 4 #[.val (.ref a_INCORRECT)] [(.ref a_CORRECT), (.ref a_INCORRECT)])) _
    refine Jvm.RoadKit.acmp (g := (mkF m 4 #[.val (.ref a_INCORRECT)] [(.ref a_CORRECT), (.ref a_INCORRECT)])) X1 hx rfl rfl rfl (pc0 := 4) (pc' := 7) (same := false) rfl (hb hby own_d_prog_59_method_6_code_4) rfl (decide_eq_false fun q => ((Fld.ne F_INCORRECT_ordinal F_CORRECT_ordinal (by decide)) : ¬ (a_INCORRECT = a_CORRECT)) (Value.ref.inj q)) (by decide) (by decide) ?_
    show Steps p.tables e below (T1.setTop (mkF m 7 #[.val (.ref a_INCORRECT)] [])) _
    refine XS.aloadN X1.here hx rfl (hb hby own_d_prog_59_method_6_code_7) rfl rfl ?_
    show Steps p.tables e below (T1.setTop (mkF m 8 #[.val (.ref a_INCORRECT)] [(.ref a_INCORRECT)])) _
    refine st2 _ ?_
    show Steps p.tables e below (T2.setTop (mkF m 11 #[.val (.ref a_INCORRECT)] [(.ref a_WARNING), (.ref a_INCORRECT)])) _
    refine Jvm.RoadKit.acmp (g := (mkF m 11 #[.val (.ref a_INCORRECT)] [(.ref a_WARNING), (.ref a_INCORRECT)])) X2 hx rfl rfl rfl (pc0 := 11) (pc' := 14) (same := false) rfl (hb hby own_d_prog_59_method_6_code_11) rfl (decide_eq_false fun q => ((Fld.ne F_INCORRECT_ordinal F_WARNING_ordinal (by decide)) : ¬ (a_INCORRECT = a_WARNING)) (Value.ref.inj q)) (by decide) (by decide) ?_
    show Steps p.tables e below (T2.setTop (mkF m 14 #[.val (.ref a_INCORRECT)] [])) _
    refine XS.aloadN X2.here hx rfl (hb hby own_d_prog_59_method_6_code_14) rfl rfl ?_
    show Steps p.tables e below (T2.setTop (mkF m 15 #[.val (.ref a_INCORRECT)] [(.ref a_INCORRECT)])) _
    refine st3 _ ?_
    show Steps p.tables e below (T3.setTop (mkF m 18 #[.val (.ref a_INCORRECT)] [(.ref a_INCORRECT), (.ref a_INCORRECT)])) _
    refine Jvm.RoadKit.acmp (g := (mkF m 18 #[.val (.ref a_INCORRECT)] [(.ref a_INCORRECT), (.ref a_INCORRECT)])) X3 hx rfl rfl rfl (pc0 := 18) (pc' := 28) (same := true) rfl (hb hby own_d_prog_59_method_6_code_18) rfl (decide_eq_true (rfl)) (by decide) (by decide) ?_
    show Steps p.tables e below (T3.setTop (mkF m 28 #[.val (.ref a_INCORRECT)] [])) _
    refine XS.iconst X3.here hx rfl (hb hby own_d_prog_59_method_6_code_28) ?_
    show Steps p.tables e below (T3.setTop (mkF m 29 #[.val (.ref a_INCORRECT)] [(.int (1 : Int32))])) _
    refine XS.goto X3.here hx rfl (pc0 := 29) (pc' := 33) rfl (hb hby own_d_prog_59_method_6_code_29) (by decide) (by decide) ?_
    exact k)
  obtain ⟨fs, hr, hrun, hended, hW, hsame⟩ := X3.leave (v := some (.int (nar .boolean (1 : Int32)))) (fun h => by rw [Bd.returns] at h; cases h)
  refine ⟨_, _, pre4 _ ?_, hrun, hended, _, _, rfl, ?_, ⟨_, rfl⟩, hW, hsame.mono (by decide) (by decide)⟩
  · show Steps p.tables e below (T3.setTop (mkF m 33 #[.val (.ref a_INCORRECT)] [(.int (1 : Int32))])) _
    exact retN X3 hx (t := .boolean) Bd.returns (by simp) (hb hby own_d_prog_59_method_6_code_33) hr
  · show QP (.int (1 : Int32)) h0 n0 _ T3.heap _
    rw [e3]
    exact ⟨rfl, N0, rfl⟩
theorem own_ef_rm1_3 (m : MethodId) (y0 : Int32) : entryFrame m #[(.int y0)] 1 = mkF m 0 #[.val (.int y0)] [] := by first | (simp [entryFrame, mkF, argsToLocals, Value.category]; done) | rfl
set_option maxRecDepth 65536 in
set_option maxHeartbeats 40000000 in
theorem rm1_3 (l : Launch) (Z : State) (a0 : Array Value) (hw : ∀ d ∈ tables_1, d.before a0 Z = true) (ws : List Jvm.Cond) (a_CORRECT : Addr) (a_MISSING : Addr) (a_ABSENT : Addr) (a_WARNING : Addr) (a_INCORRECT : Addr) (a_CONFIRMED : Addr) (h0 : Heap) (n0 : Nat) (Z0 : n0 ≤ h0.size) (S_CORRECT : Sta Z h0 "com/example/fapiao_lens/fapiaolens/Status" "CORRECT" "Lcom/example/fapiao_lens/fapiaolens/Status;" (.ref a_CORRECT)) (E_CORRECT : Exa Z h0 a_CORRECT "com/example/fapiao_lens/fapiaolens/Status") (S_MISSING : Sta Z h0 "com/example/fapiao_lens/fapiaolens/Status" "MISSING" "Lcom/example/fapiao_lens/fapiaolens/Status;" (.ref a_MISSING)) (E_MISSING : Exa Z h0 a_MISSING "com/example/fapiao_lens/fapiaolens/Status") (S_ABSENT : Sta Z h0 "com/example/fapiao_lens/fapiaolens/Status" "ABSENT" "Lcom/example/fapiao_lens/fapiaolens/Status;" (.ref a_ABSENT)) (E_ABSENT : Exa Z h0 a_ABSENT "com/example/fapiao_lens/fapiaolens/Status") (S_WARNING : Sta Z h0 "com/example/fapiao_lens/fapiaolens/Status" "WARNING" "Lcom/example/fapiao_lens/fapiaolens/Status;" (.ref a_WARNING)) (E_WARNING : Exa Z h0 a_WARNING "com/example/fapiao_lens/fapiaolens/Status") (S_INCORRECT : Sta Z h0 "com/example/fapiao_lens/fapiaolens/Status" "INCORRECT" "Lcom/example/fapiao_lens/fapiaolens/Status;" (.ref a_INCORRECT)) (E_INCORRECT : Exa Z h0 a_INCORRECT "com/example/fapiao_lens/fapiaolens/Status") (S_CONFIRMED : Sta Z h0 "com/example/fapiao_lens/fapiaolens/Status" "CONFIRMED" "Lcom/example/fapiao_lens/fapiaolens/Status;" (.ref a_CONFIRMED)) (E_CONFIRMED : Exa Z h0 a_CONFIRMED "com/example/fapiao_lens/fapiaolens/Status") (F_CORRECT_ordinal : Fld Z h0 a_CORRECT "java/lang/Enum" "ordinal" "I" (.int (0 : Int32))) (F_MISSING_ordinal : Fld Z h0 a_MISSING "java/lang/Enum" "ordinal" "I" (.int (3 : Int32))) (F_ABSENT_ordinal : Fld Z h0 a_ABSENT "java/lang/Enum" "ordinal" "I" (.int (4 : Int32))) (F_WARNING_ordinal : Fld Z h0 a_WARNING "java/lang/Enum" "ordinal" "I" (.int (1 : Int32))) (F_INCORRECT_ordinal : Fld Z h0 a_INCORRECT "java/lang/Enum" "ordinal" "I" (.int (2 : Int32))) (F_CONFIRMED_ordinal : Fld Z h0 a_CONFIRMED "java/lang/Enum" "ordinal" "I" (.int (5 : Int32))) :
    MetFree l (⟨"com/example/fapiao_lens/fapiaolens/StatusCarriesValuePinLaw", "pick", "(I)Lcom/example/fapiao_lens/fapiaolens/Status;"⟩ : MethodName) (head1 (Jvm.Cond.code (⟨"com/example/fapiao_lens/fapiaolens/StatusCarriesValuePinLaw", "pick", "(I)Lcom/example/fapiao_lens/fapiaolens/Status;"⟩ : MethodName) method_2_code 1 (some (.object "com/example/fapiao_lens/fapiaolens/Status")) :: ws) ({ frames := 0, cells := 0, slots := 0, locals := 0 } : Room)) (fun a U => a = #[(.int (3 : Int32))] ∧ Z.Warmed39 U.vm ∧ U.heap = h0) (fun _ _ _ _ _ => True) (fun _ U o U' => ∃ v L, o = .returned v ∧ QP (.ref a_MISSING) h0 n0 v U'.heap L ∧ FrameEnd U o U' L ({ frames := 0, cells := 0, slots := 0, locals := 0 } : Room).cells ({ frames := 0, cells := 0, slots := 0, locals := 0 } : Room).slots) := by
  refine MetFree.of_bodySF (plainFor_of_name own_pn0) hisR ?_
  intro p e s m args below meth c s₁ Bd hml0 hP hK
  obtain ⟨rfl, hZ, hh⟩ := hP
  have hx := Bd.exec
  have hby := Bd.bytes
  have hml : c.maxLocals = 1 := hml0
  have hown : s.vm.findClass "com/example/fapiao_lens/fapiaolens/StatusCarriesValuePinLaw" = some m.cls := findClass_of_methodNamed Bd.named
  have hnm := (name_of_methodNamed Bd.named Bd.method).1
  have X0 : Stand p l e ({ frames := 0, cells := 0, slots := 0, locals := 0 } : Room) s m #[(.int (3 : Int32))] below meth c s₁ [] 0 0 := Stand.of_body Bd
  have e0 : s₁.heap = h0 := by rw [← hh, Bd.state]; rfl
  have N0 := Fr.nil n0
  have pre0 : ∀ t, Steps p.tables e below (s₁.setTop (mkF m 0 #[.val (.int (3 : Int32))] [])) t → Steps p.tables e below (s₁.setTop (entryFrame m #[(.int (3 : Int32))] 1)) t := fun t k => castTop (own_ef_rm1_3 m (3 : Int32)) k
  obtain ⟨T1, X1, e1, st1⟩ := getS2 X0 hx hZ hown (host := "") (Or.inl (hw _ (List.mem_of_getElem? (i := 8) rfl))) Via.refl e0 S_MISSING (g := (mkF m 31 #[.val (.int (3 : Int32))] [])) rfl (hb hby own_d_method_2_code_31)
  have pre2 : ∀ t, Steps p.tables e below (T1.setTop (mkF m 34 #[.val (.int (3 : Int32))] [(.ref a_MISSING)])) t → Steps p.tables e below (s₁.setTop (entryFrame m #[(.int (3 : Int32))] 1)) t := fun t k => pre0 t (by
    show Steps p.tables e below (s₁.setTop (mkF m 0 #[.val (.int (3 : Int32))] [])) _
    refine XS.iloadN X0.here hx rfl (hb hby own_d_method_2_code_0) rfl ?_
    show Steps p.tables e below (s₁.setTop (mkF m 1 #[.val (.int (3 : Int32))] [(.int (3 : Int32))])) _
    refine XS.ifYes X0.here hx rfl (pc0 := 1) (pc' := 8) rfl (hb hby own_d_method_2_code_1) rfl ((if0 _ _).trans (feq ((by decide) : ¬ ((3 : Int32) = (0 : Int32)))).2) (by decide) (by decide) ?_
    show Steps p.tables e below (s₁.setTop (mkF m 8 #[.val (.int (3 : Int32))] [])) _
    refine XS.iloadN X0.here hx rfl (hb hby own_d_method_2_code_8) rfl ?_
    show Steps p.tables e below (s₁.setTop (mkF m 9 #[.val (.int (3 : Int32))] [(.int (3 : Int32))])) _
    refine XS.iconst X0.here hx rfl (hb hby own_d_method_2_code_9) ?_
    show Steps p.tables e below (s₁.setTop (mkF m 10 #[.val (.int (3 : Int32))] [(.int (1 : Int32)), (.int (3 : Int32))])) _
    refine XS.icmpYes X0.here hx rfl (pc0 := 10) (pc' := 17) rfl (hb hby own_d_method_2_code_10) rfl (feq ((by decide) : ¬ ((3 : Int32) = (1 : Int32)))).2 (by decide) (by decide) ?_
    show Steps p.tables e below (s₁.setTop (mkF m 17 #[.val (.int (3 : Int32))] [])) _
    refine XS.iloadN X0.here hx rfl (hb hby own_d_method_2_code_17) rfl ?_
    show Steps p.tables e below (s₁.setTop (mkF m 18 #[.val (.int (3 : Int32))] [(.int (3 : Int32))])) _
    refine XS.iconst X0.here hx rfl (hb hby own_d_method_2_code_18) ?_
    show Steps p.tables e below (s₁.setTop (mkF m 19 #[.val (.int (3 : Int32))] [(.int (2 : Int32)), (.int (3 : Int32))])) _
    refine XS.icmpYes X0.here hx rfl (pc0 := 19) (pc' := 26) rfl (hb hby own_d_method_2_code_19) rfl (feq ((by decide) : ¬ ((3 : Int32) = (2 : Int32)))).2 (by decide) (by decide) ?_
    show Steps p.tables e below (s₁.setTop (mkF m 26 #[.val (.int (3 : Int32))] [])) _
    refine XS.iloadN X0.here hx rfl (hb hby own_d_method_2_code_26) rfl ?_
    show Steps p.tables e below (s₁.setTop (mkF m 27 #[.val (.int (3 : Int32))] [(.int (3 : Int32))])) _
    refine XS.iconst X0.here hx rfl (hb hby own_d_method_2_code_27) ?_
    show Steps p.tables e below (s₁.setTop (mkF m 28 #[.val (.int (3 : Int32))] [(.int (3 : Int32)), (.int (3 : Int32))])) _
    refine XS.icmpNo X0.here hx rfl (hb hby own_d_method_2_code_28) rfl (teq ((by decide) : (3 : Int32) = (3 : Int32))).2 ?_
    show Steps p.tables e below (s₁.setTop (mkF m 31 #[.val (.int (3 : Int32))] [])) _
    refine st1 _ ?_
    exact k)
  obtain ⟨fs, hr, hrun, hended, hW, hsame⟩ := X1.leave (v := some (.ref a_MISSING)) (fun h => by rw [Bd.returns] at h; cases h)
  refine ⟨_, _, pre2 _ ?_, hrun, hended, _, _, rfl, ?_, ⟨_, rfl⟩, hW, hsame.mono (by decide) (by decide)⟩
  · show Steps p.tables e below (T1.setTop (mkF m 34 #[.val (.int (3 : Int32))] [(.ref a_MISSING)])) _
    exact retOut X1 hx (t := (.object "com/example/fapiao_lens/fapiaolens/Status")) (i := .areturn) Bd.returns rfl (Or.inr (Or.inr (Or.inr (Or.inr ⟨rfl, rfl, rfl⟩)))) (hb hby own_d_method_2_code_34) hr
  · show QP (.ref a_MISSING) h0 n0 _ T1.heap _
    rw [e1]
    exact ⟨rfl, N0, rfl⟩
theorem own_ef_rm2_3 (m : MethodId) (y0 : Addr) : entryFrame m #[(.ref y0)] 1 = mkF m 0 #[.val (.ref y0)] [] := by first | (simp [entryFrame, mkF, argsToLocals, Value.category]; done) | rfl
set_option maxRecDepth 65536 in
set_option maxHeartbeats 40000000 in
theorem rm2_3 (l : Launch) (Z : State) (a0 : Array Value) (hw : ∀ d ∈ tables_1, d.before a0 Z = true) (ws : List Jvm.Cond) (a_CORRECT : Addr) (a_MISSING : Addr) (a_ABSENT : Addr) (a_WARNING : Addr) (a_INCORRECT : Addr) (a_CONFIRMED : Addr) (h0 : Heap) (n0 : Nat) (Z0 : n0 ≤ h0.size) (S_CORRECT : Sta Z h0 "com/example/fapiao_lens/fapiaolens/Status" "CORRECT" "Lcom/example/fapiao_lens/fapiaolens/Status;" (.ref a_CORRECT)) (E_CORRECT : Exa Z h0 a_CORRECT "com/example/fapiao_lens/fapiaolens/Status") (S_MISSING : Sta Z h0 "com/example/fapiao_lens/fapiaolens/Status" "MISSING" "Lcom/example/fapiao_lens/fapiaolens/Status;" (.ref a_MISSING)) (E_MISSING : Exa Z h0 a_MISSING "com/example/fapiao_lens/fapiaolens/Status") (S_ABSENT : Sta Z h0 "com/example/fapiao_lens/fapiaolens/Status" "ABSENT" "Lcom/example/fapiao_lens/fapiaolens/Status;" (.ref a_ABSENT)) (E_ABSENT : Exa Z h0 a_ABSENT "com/example/fapiao_lens/fapiaolens/Status") (S_WARNING : Sta Z h0 "com/example/fapiao_lens/fapiaolens/Status" "WARNING" "Lcom/example/fapiao_lens/fapiaolens/Status;" (.ref a_WARNING)) (E_WARNING : Exa Z h0 a_WARNING "com/example/fapiao_lens/fapiaolens/Status") (S_INCORRECT : Sta Z h0 "com/example/fapiao_lens/fapiaolens/Status" "INCORRECT" "Lcom/example/fapiao_lens/fapiaolens/Status;" (.ref a_INCORRECT)) (E_INCORRECT : Exa Z h0 a_INCORRECT "com/example/fapiao_lens/fapiaolens/Status") (S_CONFIRMED : Sta Z h0 "com/example/fapiao_lens/fapiaolens/Status" "CONFIRMED" "Lcom/example/fapiao_lens/fapiaolens/Status;" (.ref a_CONFIRMED)) (E_CONFIRMED : Exa Z h0 a_CONFIRMED "com/example/fapiao_lens/fapiaolens/Status") (F_CORRECT_ordinal : Fld Z h0 a_CORRECT "java/lang/Enum" "ordinal" "I" (.int (0 : Int32))) (F_MISSING_ordinal : Fld Z h0 a_MISSING "java/lang/Enum" "ordinal" "I" (.int (3 : Int32))) (F_ABSENT_ordinal : Fld Z h0 a_ABSENT "java/lang/Enum" "ordinal" "I" (.int (4 : Int32))) (F_WARNING_ordinal : Fld Z h0 a_WARNING "java/lang/Enum" "ordinal" "I" (.int (1 : Int32))) (F_INCORRECT_ordinal : Fld Z h0 a_INCORRECT "java/lang/Enum" "ordinal" "I" (.int (2 : Int32))) (F_CONFIRMED_ordinal : Fld Z h0 a_CONFIRMED "java/lang/Enum" "ordinal" "I" (.int (5 : Int32))) :
    MetFree l (⟨"com/example/fapiao_lens/fapiaolens/Status", "carriesValue", "()Z"⟩ : MethodName) (head1 (Jvm.Cond.code (⟨"com/example/fapiao_lens/fapiaolens/Status", "carriesValue", "()Z"⟩ : MethodName) prog_59_method_6_code 1 (some .boolean) :: ws) ({ frames := 0, cells := 0, slots := 0, locals := 0 } : Room)) (fun a U => a = #[(.ref a_MISSING)] ∧ Z.Warmed39 U.vm ∧ U.heap = h0) (fun _ _ _ _ _ => True) (fun _ U o U' => ∃ v L, o = .returned v ∧ QP (.int (0 : Int32)) h0 n0 v U'.heap L ∧ FrameEnd U o U' L ({ frames := 0, cells := 0, slots := 0, locals := 0 } : Room).cells ({ frames := 0, cells := 0, slots := 0, locals := 0 } : Room).slots) := by
  refine MetFree.of_bodySF (plainFor_of_name own_pn1) hisR ?_
  intro p e s m args below meth c s₁ Bd hml0 hP hK
  obtain ⟨rfl, hZ, hh⟩ := hP
  have hx := Bd.exec
  have hby := Bd.bytes
  have hml : c.maxLocals = 1 := hml0
  have hown : s.vm.findClass "com/example/fapiao_lens/fapiaolens/Status" = some m.cls := findClass_of_methodNamed Bd.named
  have hnm := (name_of_methodNamed Bd.named Bd.method).1
  have X0 : Stand p l e ({ frames := 0, cells := 0, slots := 0, locals := 0 } : Room) s m #[(.ref a_MISSING)] below meth c s₁ [] 0 0 := Stand.of_body Bd
  have e0 : s₁.heap = h0 := by rw [← hh, Bd.state]; rfl
  have N0 := Fr.nil n0
  have pre0 : ∀ t, Steps p.tables e below (s₁.setTop (mkF m 0 #[.val (.ref a_MISSING)] [])) t → Steps p.tables e below (s₁.setTop (entryFrame m #[(.ref a_MISSING)] 1)) t := fun t k => castTop (own_ef_rm2_3 m a_MISSING) k
  obtain ⟨T1, X1, e1, st1⟩ := getS2 X0 hx hZ hown (host := "") (Or.inl (hw _ (List.mem_of_getElem? (i := 17) rfl))) Via.refl e0 S_CORRECT (g := (mkF m 1 #[.val (.ref a_MISSING)] [(.ref a_MISSING)])) rfl (hb hby own_d_prog_59_method_6_code_1)
  obtain ⟨T2, X2, e2, st2⟩ := getS2 X1 hx hZ hown (host := "") (Or.inl (hw _ (List.mem_of_getElem? (i := 18) rfl))) Via.refl e1 S_WARNING (g := (mkF m 8 #[.val (.ref a_MISSING)] [(.ref a_MISSING)])) rfl (hb hby own_d_prog_59_method_6_code_8)
  obtain ⟨T3, X3, e3, st3⟩ := getS2 X2 hx hZ hown (host := "") (Or.inl (hw _ (List.mem_of_getElem? (i := 20) rfl))) Via.refl e2 S_INCORRECT (g := (mkF m 15 #[.val (.ref a_MISSING)] [(.ref a_MISSING)])) rfl (hb hby own_d_prog_59_method_6_code_15)
  obtain ⟨T4, X4, e4, st4⟩ := getS2 X3 hx hZ hown (host := "") (Or.inl (hw _ (List.mem_of_getElem? (i := 22) rfl))) Via.refl e3 S_CONFIRMED (g := (mkF m 22 #[.val (.ref a_MISSING)] [(.ref a_MISSING)])) rfl (hb hby own_d_prog_59_method_6_code_22)
  have pre5 : ∀ t, Steps p.tables e below (T4.setTop (mkF m 33 #[.val (.ref a_MISSING)] [(.int (0 : Int32))])) t → Steps p.tables e below (s₁.setTop (entryFrame m #[(.ref a_MISSING)] 1)) t := fun t k => pre0 t (by
    show Steps p.tables e below (s₁.setTop (mkF m 0 #[.val (.ref a_MISSING)] [])) _
    refine XS.aloadN X0.here hx rfl (hb hby own_d_prog_59_method_6_code_0) rfl rfl ?_
    show Steps p.tables e below (s₁.setTop (mkF m 1 #[.val (.ref a_MISSING)] [(.ref a_MISSING)])) _
    refine st1 _ ?_
    show Steps p.tables e below (T1.setTop (mkF m 4 #[.val (.ref a_MISSING)] [(.ref a_CORRECT), (.ref a_MISSING)])) _
    refine Jvm.RoadKit.acmp (g := (mkF m 4 #[.val (.ref a_MISSING)] [(.ref a_CORRECT), (.ref a_MISSING)])) X1 hx rfl rfl rfl (pc0 := 4) (pc' := 7) (same := false) rfl (hb hby own_d_prog_59_method_6_code_4) rfl (decide_eq_false fun q => ((Fld.ne F_MISSING_ordinal F_CORRECT_ordinal (by decide)) : ¬ (a_MISSING = a_CORRECT)) (Value.ref.inj q)) (by decide) (by decide) ?_
    show Steps p.tables e below (T1.setTop (mkF m 7 #[.val (.ref a_MISSING)] [])) _
    refine XS.aloadN X1.here hx rfl (hb hby own_d_prog_59_method_6_code_7) rfl rfl ?_
    show Steps p.tables e below (T1.setTop (mkF m 8 #[.val (.ref a_MISSING)] [(.ref a_MISSING)])) _
    refine st2 _ ?_
    show Steps p.tables e below (T2.setTop (mkF m 11 #[.val (.ref a_MISSING)] [(.ref a_WARNING), (.ref a_MISSING)])) _
    refine Jvm.RoadKit.acmp (g := (mkF m 11 #[.val (.ref a_MISSING)] [(.ref a_WARNING), (.ref a_MISSING)])) X2 hx rfl rfl rfl (pc0 := 11) (pc' := 14) (same := false) rfl (hb hby own_d_prog_59_method_6_code_11) rfl (decide_eq_false fun q => ((Fld.ne F_MISSING_ordinal F_WARNING_ordinal (by decide)) : ¬ (a_MISSING = a_WARNING)) (Value.ref.inj q)) (by decide) (by decide) ?_
    show Steps p.tables e below (T2.setTop (mkF m 14 #[.val (.ref a_MISSING)] [])) _
    refine XS.aloadN X2.here hx rfl (hb hby own_d_prog_59_method_6_code_14) rfl rfl ?_
    show Steps p.tables e below (T2.setTop (mkF m 15 #[.val (.ref a_MISSING)] [(.ref a_MISSING)])) _
    refine st3 _ ?_
    show Steps p.tables e below (T3.setTop (mkF m 18 #[.val (.ref a_MISSING)] [(.ref a_INCORRECT), (.ref a_MISSING)])) _
    refine Jvm.RoadKit.acmp (g := (mkF m 18 #[.val (.ref a_MISSING)] [(.ref a_INCORRECT), (.ref a_MISSING)])) X3 hx rfl rfl rfl (pc0 := 18) (pc' := 21) (same := false) rfl (hb hby own_d_prog_59_method_6_code_18) rfl (decide_eq_false fun q => ((Fld.ne F_MISSING_ordinal F_INCORRECT_ordinal (by decide)) : ¬ (a_MISSING = a_INCORRECT)) (Value.ref.inj q)) (by decide) (by decide) ?_
    show Steps p.tables e below (T3.setTop (mkF m 21 #[.val (.ref a_MISSING)] [])) _
    refine XS.aloadN X3.here hx rfl (hb hby own_d_prog_59_method_6_code_21) rfl rfl ?_
    show Steps p.tables e below (T3.setTop (mkF m 22 #[.val (.ref a_MISSING)] [(.ref a_MISSING)])) _
    refine st4 _ ?_
    show Steps p.tables e below (T4.setTop (mkF m 25 #[.val (.ref a_MISSING)] [(.ref a_CONFIRMED), (.ref a_MISSING)])) _
    refine Jvm.RoadKit.acmp (g := (mkF m 25 #[.val (.ref a_MISSING)] [(.ref a_CONFIRMED), (.ref a_MISSING)])) X4 hx rfl rfl rfl (pc0 := 25) (pc' := 32) (same := false) rfl (hb hby own_d_prog_59_method_6_code_25) rfl (decide_eq_false fun q => ((Fld.ne F_MISSING_ordinal F_CONFIRMED_ordinal (by decide)) : ¬ (a_MISSING = a_CONFIRMED)) (Value.ref.inj q)) (by decide) (by decide) ?_
    show Steps p.tables e below (T4.setTop (mkF m 32 #[.val (.ref a_MISSING)] [])) _
    refine XS.iconst X4.here hx rfl (hb hby own_d_prog_59_method_6_code_32) ?_
    exact k)
  obtain ⟨fs, hr, hrun, hended, hW, hsame⟩ := X4.leave (v := some (.int (nar .boolean (0 : Int32)))) (fun h => by rw [Bd.returns] at h; cases h)
  refine ⟨_, _, pre5 _ ?_, hrun, hended, _, _, rfl, ?_, ⟨_, rfl⟩, hW, hsame.mono (by decide) (by decide)⟩
  · show Steps p.tables e below (T4.setTop (mkF m 33 #[.val (.ref a_MISSING)] [(.int (0 : Int32))])) _
    exact retN X4 hx (t := .boolean) Bd.returns (by simp) (hb hby own_d_prog_59_method_6_code_33) hr
  · show QP (.int (0 : Int32)) h0 n0 _ T4.heap _
    rw [e4]
    exact ⟨rfl, N0, rfl⟩
theorem own_ef_rm1_4 (m : MethodId) (y0 : Int32) : entryFrame m #[(.int y0)] 1 = mkF m 0 #[.val (.int y0)] [] := by first | (simp [entryFrame, mkF, argsToLocals, Value.category]; done) | rfl
set_option maxRecDepth 65536 in
set_option maxHeartbeats 40000000 in
theorem rm1_4 (l : Launch) (Z : State) (a0 : Array Value) (hw : ∀ d ∈ tables_1, d.before a0 Z = true) (ws : List Jvm.Cond) (a_CORRECT : Addr) (a_MISSING : Addr) (a_ABSENT : Addr) (a_WARNING : Addr) (a_INCORRECT : Addr) (a_CONFIRMED : Addr) (h0 : Heap) (n0 : Nat) (Z0 : n0 ≤ h0.size) (S_CORRECT : Sta Z h0 "com/example/fapiao_lens/fapiaolens/Status" "CORRECT" "Lcom/example/fapiao_lens/fapiaolens/Status;" (.ref a_CORRECT)) (E_CORRECT : Exa Z h0 a_CORRECT "com/example/fapiao_lens/fapiaolens/Status") (S_MISSING : Sta Z h0 "com/example/fapiao_lens/fapiaolens/Status" "MISSING" "Lcom/example/fapiao_lens/fapiaolens/Status;" (.ref a_MISSING)) (E_MISSING : Exa Z h0 a_MISSING "com/example/fapiao_lens/fapiaolens/Status") (S_ABSENT : Sta Z h0 "com/example/fapiao_lens/fapiaolens/Status" "ABSENT" "Lcom/example/fapiao_lens/fapiaolens/Status;" (.ref a_ABSENT)) (E_ABSENT : Exa Z h0 a_ABSENT "com/example/fapiao_lens/fapiaolens/Status") (S_WARNING : Sta Z h0 "com/example/fapiao_lens/fapiaolens/Status" "WARNING" "Lcom/example/fapiao_lens/fapiaolens/Status;" (.ref a_WARNING)) (E_WARNING : Exa Z h0 a_WARNING "com/example/fapiao_lens/fapiaolens/Status") (S_INCORRECT : Sta Z h0 "com/example/fapiao_lens/fapiaolens/Status" "INCORRECT" "Lcom/example/fapiao_lens/fapiaolens/Status;" (.ref a_INCORRECT)) (E_INCORRECT : Exa Z h0 a_INCORRECT "com/example/fapiao_lens/fapiaolens/Status") (S_CONFIRMED : Sta Z h0 "com/example/fapiao_lens/fapiaolens/Status" "CONFIRMED" "Lcom/example/fapiao_lens/fapiaolens/Status;" (.ref a_CONFIRMED)) (E_CONFIRMED : Exa Z h0 a_CONFIRMED "com/example/fapiao_lens/fapiaolens/Status") (F_CORRECT_ordinal : Fld Z h0 a_CORRECT "java/lang/Enum" "ordinal" "I" (.int (0 : Int32))) (F_MISSING_ordinal : Fld Z h0 a_MISSING "java/lang/Enum" "ordinal" "I" (.int (3 : Int32))) (F_ABSENT_ordinal : Fld Z h0 a_ABSENT "java/lang/Enum" "ordinal" "I" (.int (4 : Int32))) (F_WARNING_ordinal : Fld Z h0 a_WARNING "java/lang/Enum" "ordinal" "I" (.int (1 : Int32))) (F_INCORRECT_ordinal : Fld Z h0 a_INCORRECT "java/lang/Enum" "ordinal" "I" (.int (2 : Int32))) (F_CONFIRMED_ordinal : Fld Z h0 a_CONFIRMED "java/lang/Enum" "ordinal" "I" (.int (5 : Int32))) :
    MetFree l (⟨"com/example/fapiao_lens/fapiaolens/StatusCarriesValuePinLaw", "pick", "(I)Lcom/example/fapiao_lens/fapiaolens/Status;"⟩ : MethodName) (head1 (Jvm.Cond.code (⟨"com/example/fapiao_lens/fapiaolens/StatusCarriesValuePinLaw", "pick", "(I)Lcom/example/fapiao_lens/fapiaolens/Status;"⟩ : MethodName) method_2_code 1 (some (.object "com/example/fapiao_lens/fapiaolens/Status")) :: ws) ({ frames := 0, cells := 0, slots := 0, locals := 0 } : Room)) (fun a U => a = #[(.int (4 : Int32))] ∧ Z.Warmed39 U.vm ∧ U.heap = h0) (fun _ _ _ _ _ => True) (fun _ U o U' => ∃ v L, o = .returned v ∧ QP (.ref a_ABSENT) h0 n0 v U'.heap L ∧ FrameEnd U o U' L ({ frames := 0, cells := 0, slots := 0, locals := 0 } : Room).cells ({ frames := 0, cells := 0, slots := 0, locals := 0 } : Room).slots) := by
  refine MetFree.of_bodySF (plainFor_of_name own_pn0) hisR ?_
  intro p e s m args below meth c s₁ Bd hml0 hP hK
  obtain ⟨rfl, hZ, hh⟩ := hP
  have hx := Bd.exec
  have hby := Bd.bytes
  have hml : c.maxLocals = 1 := hml0
  have hown : s.vm.findClass "com/example/fapiao_lens/fapiaolens/StatusCarriesValuePinLaw" = some m.cls := findClass_of_methodNamed Bd.named
  have hnm := (name_of_methodNamed Bd.named Bd.method).1
  have X0 : Stand p l e ({ frames := 0, cells := 0, slots := 0, locals := 0 } : Room) s m #[(.int (4 : Int32))] below meth c s₁ [] 0 0 := Stand.of_body Bd
  have e0 : s₁.heap = h0 := by rw [← hh, Bd.state]; rfl
  have N0 := Fr.nil n0
  have pre0 : ∀ t, Steps p.tables e below (s₁.setTop (mkF m 0 #[.val (.int (4 : Int32))] [])) t → Steps p.tables e below (s₁.setTop (entryFrame m #[(.int (4 : Int32))] 1)) t := fun t k => castTop (own_ef_rm1_4 m (4 : Int32)) k
  obtain ⟨T1, X1, e1, st1⟩ := getS2 X0 hx hZ hown (host := "") (Or.inl (hw _ (List.mem_of_getElem? (i := 10) rfl))) Via.refl e0 S_ABSENT (g := (mkF m 40 #[.val (.int (4 : Int32))] [])) rfl (hb hby own_d_method_2_code_40)
  have pre2 : ∀ t, Steps p.tables e below (T1.setTop (mkF m 43 #[.val (.int (4 : Int32))] [(.ref a_ABSENT)])) t → Steps p.tables e below (s₁.setTop (entryFrame m #[(.int (4 : Int32))] 1)) t := fun t k => pre0 t (by
    show Steps p.tables e below (s₁.setTop (mkF m 0 #[.val (.int (4 : Int32))] [])) _
    refine XS.iloadN X0.here hx rfl (hb hby own_d_method_2_code_0) rfl ?_
    show Steps p.tables e below (s₁.setTop (mkF m 1 #[.val (.int (4 : Int32))] [(.int (4 : Int32))])) _
    refine XS.ifYes X0.here hx rfl (pc0 := 1) (pc' := 8) rfl (hb hby own_d_method_2_code_1) rfl ((if0 _ _).trans (feq ((by decide) : ¬ ((4 : Int32) = (0 : Int32)))).2) (by decide) (by decide) ?_
    show Steps p.tables e below (s₁.setTop (mkF m 8 #[.val (.int (4 : Int32))] [])) _
    refine XS.iloadN X0.here hx rfl (hb hby own_d_method_2_code_8) rfl ?_
    show Steps p.tables e below (s₁.setTop (mkF m 9 #[.val (.int (4 : Int32))] [(.int (4 : Int32))])) _
    refine XS.iconst X0.here hx rfl (hb hby own_d_method_2_code_9) ?_
    show Steps p.tables e below (s₁.setTop (mkF m 10 #[.val (.int (4 : Int32))] [(.int (1 : Int32)), (.int (4 : Int32))])) _
    refine XS.icmpYes X0.here hx rfl (pc0 := 10) (pc' := 17) rfl (hb hby own_d_method_2_code_10) rfl (feq ((by decide) : ¬ ((4 : Int32) = (1 : Int32)))).2 (by decide) (by decide) ?_
    show Steps p.tables e below (s₁.setTop (mkF m 17 #[.val (.int (4 : Int32))] [])) _
    refine XS.iloadN X0.here hx rfl (hb hby own_d_method_2_code_17) rfl ?_
    show Steps p.tables e below (s₁.setTop (mkF m 18 #[.val (.int (4 : Int32))] [(.int (4 : Int32))])) _
    refine XS.iconst X0.here hx rfl (hb hby own_d_method_2_code_18) ?_
    show Steps p.tables e below (s₁.setTop (mkF m 19 #[.val (.int (4 : Int32))] [(.int (2 : Int32)), (.int (4 : Int32))])) _
    refine XS.icmpYes X0.here hx rfl (pc0 := 19) (pc' := 26) rfl (hb hby own_d_method_2_code_19) rfl (feq ((by decide) : ¬ ((4 : Int32) = (2 : Int32)))).2 (by decide) (by decide) ?_
    show Steps p.tables e below (s₁.setTop (mkF m 26 #[.val (.int (4 : Int32))] [])) _
    refine XS.iloadN X0.here hx rfl (hb hby own_d_method_2_code_26) rfl ?_
    show Steps p.tables e below (s₁.setTop (mkF m 27 #[.val (.int (4 : Int32))] [(.int (4 : Int32))])) _
    refine XS.iconst X0.here hx rfl (hb hby own_d_method_2_code_27) ?_
    show Steps p.tables e below (s₁.setTop (mkF m 28 #[.val (.int (4 : Int32))] [(.int (3 : Int32)), (.int (4 : Int32))])) _
    refine XS.icmpYes X0.here hx rfl (pc0 := 28) (pc' := 35) rfl (hb hby own_d_method_2_code_28) rfl (feq ((by decide) : ¬ ((4 : Int32) = (3 : Int32)))).2 (by decide) (by decide) ?_
    show Steps p.tables e below (s₁.setTop (mkF m 35 #[.val (.int (4 : Int32))] [])) _
    refine XS.iloadN X0.here hx rfl (hb hby own_d_method_2_code_35) rfl ?_
    show Steps p.tables e below (s₁.setTop (mkF m 36 #[.val (.int (4 : Int32))] [(.int (4 : Int32))])) _
    refine XS.iconst X0.here hx rfl (hb hby own_d_method_2_code_36) ?_
    show Steps p.tables e below (s₁.setTop (mkF m 37 #[.val (.int (4 : Int32))] [(.int (4 : Int32)), (.int (4 : Int32))])) _
    refine XS.icmpNo X0.here hx rfl (hb hby own_d_method_2_code_37) rfl (teq ((by decide) : (4 : Int32) = (4 : Int32))).2 ?_
    show Steps p.tables e below (s₁.setTop (mkF m 40 #[.val (.int (4 : Int32))] [])) _
    refine st1 _ ?_
    exact k)
  obtain ⟨fs, hr, hrun, hended, hW, hsame⟩ := X1.leave (v := some (.ref a_ABSENT)) (fun h => by rw [Bd.returns] at h; cases h)
  refine ⟨_, _, pre2 _ ?_, hrun, hended, _, _, rfl, ?_, ⟨_, rfl⟩, hW, hsame.mono (by decide) (by decide)⟩
  · show Steps p.tables e below (T1.setTop (mkF m 43 #[.val (.int (4 : Int32))] [(.ref a_ABSENT)])) _
    exact retOut X1 hx (t := (.object "com/example/fapiao_lens/fapiaolens/Status")) (i := .areturn) Bd.returns rfl (Or.inr (Or.inr (Or.inr (Or.inr ⟨rfl, rfl, rfl⟩)))) (hb hby own_d_method_2_code_43) hr
  · show QP (.ref a_ABSENT) h0 n0 _ T1.heap _
    rw [e1]
    exact ⟨rfl, N0, rfl⟩
theorem own_ef_rm2_4 (m : MethodId) (y0 : Addr) : entryFrame m #[(.ref y0)] 1 = mkF m 0 #[.val (.ref y0)] [] := by first | (simp [entryFrame, mkF, argsToLocals, Value.category]; done) | rfl
set_option maxRecDepth 65536 in
set_option maxHeartbeats 40000000 in
theorem rm2_4 (l : Launch) (Z : State) (a0 : Array Value) (hw : ∀ d ∈ tables_1, d.before a0 Z = true) (ws : List Jvm.Cond) (a_CORRECT : Addr) (a_MISSING : Addr) (a_ABSENT : Addr) (a_WARNING : Addr) (a_INCORRECT : Addr) (a_CONFIRMED : Addr) (h0 : Heap) (n0 : Nat) (Z0 : n0 ≤ h0.size) (S_CORRECT : Sta Z h0 "com/example/fapiao_lens/fapiaolens/Status" "CORRECT" "Lcom/example/fapiao_lens/fapiaolens/Status;" (.ref a_CORRECT)) (E_CORRECT : Exa Z h0 a_CORRECT "com/example/fapiao_lens/fapiaolens/Status") (S_MISSING : Sta Z h0 "com/example/fapiao_lens/fapiaolens/Status" "MISSING" "Lcom/example/fapiao_lens/fapiaolens/Status;" (.ref a_MISSING)) (E_MISSING : Exa Z h0 a_MISSING "com/example/fapiao_lens/fapiaolens/Status") (S_ABSENT : Sta Z h0 "com/example/fapiao_lens/fapiaolens/Status" "ABSENT" "Lcom/example/fapiao_lens/fapiaolens/Status;" (.ref a_ABSENT)) (E_ABSENT : Exa Z h0 a_ABSENT "com/example/fapiao_lens/fapiaolens/Status") (S_WARNING : Sta Z h0 "com/example/fapiao_lens/fapiaolens/Status" "WARNING" "Lcom/example/fapiao_lens/fapiaolens/Status;" (.ref a_WARNING)) (E_WARNING : Exa Z h0 a_WARNING "com/example/fapiao_lens/fapiaolens/Status") (S_INCORRECT : Sta Z h0 "com/example/fapiao_lens/fapiaolens/Status" "INCORRECT" "Lcom/example/fapiao_lens/fapiaolens/Status;" (.ref a_INCORRECT)) (E_INCORRECT : Exa Z h0 a_INCORRECT "com/example/fapiao_lens/fapiaolens/Status") (S_CONFIRMED : Sta Z h0 "com/example/fapiao_lens/fapiaolens/Status" "CONFIRMED" "Lcom/example/fapiao_lens/fapiaolens/Status;" (.ref a_CONFIRMED)) (E_CONFIRMED : Exa Z h0 a_CONFIRMED "com/example/fapiao_lens/fapiaolens/Status") (F_CORRECT_ordinal : Fld Z h0 a_CORRECT "java/lang/Enum" "ordinal" "I" (.int (0 : Int32))) (F_MISSING_ordinal : Fld Z h0 a_MISSING "java/lang/Enum" "ordinal" "I" (.int (3 : Int32))) (F_ABSENT_ordinal : Fld Z h0 a_ABSENT "java/lang/Enum" "ordinal" "I" (.int (4 : Int32))) (F_WARNING_ordinal : Fld Z h0 a_WARNING "java/lang/Enum" "ordinal" "I" (.int (1 : Int32))) (F_INCORRECT_ordinal : Fld Z h0 a_INCORRECT "java/lang/Enum" "ordinal" "I" (.int (2 : Int32))) (F_CONFIRMED_ordinal : Fld Z h0 a_CONFIRMED "java/lang/Enum" "ordinal" "I" (.int (5 : Int32))) :
    MetFree l (⟨"com/example/fapiao_lens/fapiaolens/Status", "carriesValue", "()Z"⟩ : MethodName) (head1 (Jvm.Cond.code (⟨"com/example/fapiao_lens/fapiaolens/Status", "carriesValue", "()Z"⟩ : MethodName) prog_59_method_6_code 1 (some .boolean) :: ws) ({ frames := 0, cells := 0, slots := 0, locals := 0 } : Room)) (fun a U => a = #[(.ref a_ABSENT)] ∧ Z.Warmed39 U.vm ∧ U.heap = h0) (fun _ _ _ _ _ => True) (fun _ U o U' => ∃ v L, o = .returned v ∧ QP (.int (0 : Int32)) h0 n0 v U'.heap L ∧ FrameEnd U o U' L ({ frames := 0, cells := 0, slots := 0, locals := 0 } : Room).cells ({ frames := 0, cells := 0, slots := 0, locals := 0 } : Room).slots) := by
  refine MetFree.of_bodySF (plainFor_of_name own_pn1) hisR ?_
  intro p e s m args below meth c s₁ Bd hml0 hP hK
  obtain ⟨rfl, hZ, hh⟩ := hP
  have hx := Bd.exec
  have hby := Bd.bytes
  have hml : c.maxLocals = 1 := hml0
  have hown : s.vm.findClass "com/example/fapiao_lens/fapiaolens/Status" = some m.cls := findClass_of_methodNamed Bd.named
  have hnm := (name_of_methodNamed Bd.named Bd.method).1
  have X0 : Stand p l e ({ frames := 0, cells := 0, slots := 0, locals := 0 } : Room) s m #[(.ref a_ABSENT)] below meth c s₁ [] 0 0 := Stand.of_body Bd
  have e0 : s₁.heap = h0 := by rw [← hh, Bd.state]; rfl
  have N0 := Fr.nil n0
  have pre0 : ∀ t, Steps p.tables e below (s₁.setTop (mkF m 0 #[.val (.ref a_ABSENT)] [])) t → Steps p.tables e below (s₁.setTop (entryFrame m #[(.ref a_ABSENT)] 1)) t := fun t k => castTop (own_ef_rm2_4 m a_ABSENT) k
  obtain ⟨T1, X1, e1, st1⟩ := getS2 X0 hx hZ hown (host := "") (Or.inl (hw _ (List.mem_of_getElem? (i := 17) rfl))) Via.refl e0 S_CORRECT (g := (mkF m 1 #[.val (.ref a_ABSENT)] [(.ref a_ABSENT)])) rfl (hb hby own_d_prog_59_method_6_code_1)
  obtain ⟨T2, X2, e2, st2⟩ := getS2 X1 hx hZ hown (host := "") (Or.inl (hw _ (List.mem_of_getElem? (i := 18) rfl))) Via.refl e1 S_WARNING (g := (mkF m 8 #[.val (.ref a_ABSENT)] [(.ref a_ABSENT)])) rfl (hb hby own_d_prog_59_method_6_code_8)
  obtain ⟨T3, X3, e3, st3⟩ := getS2 X2 hx hZ hown (host := "") (Or.inl (hw _ (List.mem_of_getElem? (i := 20) rfl))) Via.refl e2 S_INCORRECT (g := (mkF m 15 #[.val (.ref a_ABSENT)] [(.ref a_ABSENT)])) rfl (hb hby own_d_prog_59_method_6_code_15)
  obtain ⟨T4, X4, e4, st4⟩ := getS2 X3 hx hZ hown (host := "") (Or.inl (hw _ (List.mem_of_getElem? (i := 22) rfl))) Via.refl e3 S_CONFIRMED (g := (mkF m 22 #[.val (.ref a_ABSENT)] [(.ref a_ABSENT)])) rfl (hb hby own_d_prog_59_method_6_code_22)
  have pre5 : ∀ t, Steps p.tables e below (T4.setTop (mkF m 33 #[.val (.ref a_ABSENT)] [(.int (0 : Int32))])) t → Steps p.tables e below (s₁.setTop (entryFrame m #[(.ref a_ABSENT)] 1)) t := fun t k => pre0 t (by
    show Steps p.tables e below (s₁.setTop (mkF m 0 #[.val (.ref a_ABSENT)] [])) _
    refine XS.aloadN X0.here hx rfl (hb hby own_d_prog_59_method_6_code_0) rfl rfl ?_
    show Steps p.tables e below (s₁.setTop (mkF m 1 #[.val (.ref a_ABSENT)] [(.ref a_ABSENT)])) _
    refine st1 _ ?_
    show Steps p.tables e below (T1.setTop (mkF m 4 #[.val (.ref a_ABSENT)] [(.ref a_CORRECT), (.ref a_ABSENT)])) _
    refine Jvm.RoadKit.acmp (g := (mkF m 4 #[.val (.ref a_ABSENT)] [(.ref a_CORRECT), (.ref a_ABSENT)])) X1 hx rfl rfl rfl (pc0 := 4) (pc' := 7) (same := false) rfl (hb hby own_d_prog_59_method_6_code_4) rfl (decide_eq_false fun q => ((Fld.ne F_ABSENT_ordinal F_CORRECT_ordinal (by decide)) : ¬ (a_ABSENT = a_CORRECT)) (Value.ref.inj q)) (by decide) (by decide) ?_
    show Steps p.tables e below (T1.setTop (mkF m 7 #[.val (.ref a_ABSENT)] [])) _
    refine XS.aloadN X1.here hx rfl (hb hby own_d_prog_59_method_6_code_7) rfl rfl ?_
    show Steps p.tables e below (T1.setTop (mkF m 8 #[.val (.ref a_ABSENT)] [(.ref a_ABSENT)])) _
    refine st2 _ ?_
    show Steps p.tables e below (T2.setTop (mkF m 11 #[.val (.ref a_ABSENT)] [(.ref a_WARNING), (.ref a_ABSENT)])) _
    refine Jvm.RoadKit.acmp (g := (mkF m 11 #[.val (.ref a_ABSENT)] [(.ref a_WARNING), (.ref a_ABSENT)])) X2 hx rfl rfl rfl (pc0 := 11) (pc' := 14) (same := false) rfl (hb hby own_d_prog_59_method_6_code_11) rfl (decide_eq_false fun q => ((Fld.ne F_ABSENT_ordinal F_WARNING_ordinal (by decide)) : ¬ (a_ABSENT = a_WARNING)) (Value.ref.inj q)) (by decide) (by decide) ?_
    show Steps p.tables e below (T2.setTop (mkF m 14 #[.val (.ref a_ABSENT)] [])) _
    refine XS.aloadN X2.here hx rfl (hb hby own_d_prog_59_method_6_code_14) rfl rfl ?_
    show Steps p.tables e below (T2.setTop (mkF m 15 #[.val (.ref a_ABSENT)] [(.ref a_ABSENT)])) _
    refine st3 _ ?_
    show Steps p.tables e below (T3.setTop (mkF m 18 #[.val (.ref a_ABSENT)] [(.ref a_INCORRECT), (.ref a_ABSENT)])) _
    refine Jvm.RoadKit.acmp (g := (mkF m 18 #[.val (.ref a_ABSENT)] [(.ref a_INCORRECT), (.ref a_ABSENT)])) X3 hx rfl rfl rfl (pc0 := 18) (pc' := 21) (same := false) rfl (hb hby own_d_prog_59_method_6_code_18) rfl (decide_eq_false fun q => ((Fld.ne F_ABSENT_ordinal F_INCORRECT_ordinal (by decide)) : ¬ (a_ABSENT = a_INCORRECT)) (Value.ref.inj q)) (by decide) (by decide) ?_
    show Steps p.tables e below (T3.setTop (mkF m 21 #[.val (.ref a_ABSENT)] [])) _
    refine XS.aloadN X3.here hx rfl (hb hby own_d_prog_59_method_6_code_21) rfl rfl ?_
    show Steps p.tables e below (T3.setTop (mkF m 22 #[.val (.ref a_ABSENT)] [(.ref a_ABSENT)])) _
    refine st4 _ ?_
    show Steps p.tables e below (T4.setTop (mkF m 25 #[.val (.ref a_ABSENT)] [(.ref a_CONFIRMED), (.ref a_ABSENT)])) _
    refine Jvm.RoadKit.acmp (g := (mkF m 25 #[.val (.ref a_ABSENT)] [(.ref a_CONFIRMED), (.ref a_ABSENT)])) X4 hx rfl rfl rfl (pc0 := 25) (pc' := 32) (same := false) rfl (hb hby own_d_prog_59_method_6_code_25) rfl (decide_eq_false fun q => ((Fld.ne F_ABSENT_ordinal F_CONFIRMED_ordinal (by decide)) : ¬ (a_ABSENT = a_CONFIRMED)) (Value.ref.inj q)) (by decide) (by decide) ?_
    show Steps p.tables e below (T4.setTop (mkF m 32 #[.val (.ref a_ABSENT)] [])) _
    refine XS.iconst X4.here hx rfl (hb hby own_d_prog_59_method_6_code_32) ?_
    exact k)
  obtain ⟨fs, hr, hrun, hended, hW, hsame⟩ := X4.leave (v := some (.int (nar .boolean (0 : Int32)))) (fun h => by rw [Bd.returns] at h; cases h)
  refine ⟨_, _, pre5 _ ?_, hrun, hended, _, _, rfl, ?_, ⟨_, rfl⟩, hW, hsame.mono (by decide) (by decide)⟩
  · show Steps p.tables e below (T4.setTop (mkF m 33 #[.val (.ref a_ABSENT)] [(.int (0 : Int32))])) _
    exact retN X4 hx (t := .boolean) Bd.returns (by simp) (hb hby own_d_prog_59_method_6_code_33) hr
  · show QP (.int (0 : Int32)) h0 n0 _ T4.heap _
    rw [e4]
    exact ⟨rfl, N0, rfl⟩
theorem own_ef_rm1_5 (m : MethodId) (y0 : Int32) : entryFrame m #[(.int y0)] 1 = mkF m 0 #[.val (.int y0)] [] := by first | (simp [entryFrame, mkF, argsToLocals, Value.category]; done) | rfl
set_option maxRecDepth 65536 in
set_option maxHeartbeats 40000000 in
theorem rm1_5 (l : Launch) (Z : State) (a0 : Array Value) (hw : ∀ d ∈ tables_1, d.before a0 Z = true) (ws : List Jvm.Cond) (a_CORRECT : Addr) (a_MISSING : Addr) (a_ABSENT : Addr) (a_WARNING : Addr) (a_INCORRECT : Addr) (a_CONFIRMED : Addr) (h0 : Heap) (n0 : Nat) (Z0 : n0 ≤ h0.size) (S_CORRECT : Sta Z h0 "com/example/fapiao_lens/fapiaolens/Status" "CORRECT" "Lcom/example/fapiao_lens/fapiaolens/Status;" (.ref a_CORRECT)) (E_CORRECT : Exa Z h0 a_CORRECT "com/example/fapiao_lens/fapiaolens/Status") (S_MISSING : Sta Z h0 "com/example/fapiao_lens/fapiaolens/Status" "MISSING" "Lcom/example/fapiao_lens/fapiaolens/Status;" (.ref a_MISSING)) (E_MISSING : Exa Z h0 a_MISSING "com/example/fapiao_lens/fapiaolens/Status") (S_ABSENT : Sta Z h0 "com/example/fapiao_lens/fapiaolens/Status" "ABSENT" "Lcom/example/fapiao_lens/fapiaolens/Status;" (.ref a_ABSENT)) (E_ABSENT : Exa Z h0 a_ABSENT "com/example/fapiao_lens/fapiaolens/Status") (S_WARNING : Sta Z h0 "com/example/fapiao_lens/fapiaolens/Status" "WARNING" "Lcom/example/fapiao_lens/fapiaolens/Status;" (.ref a_WARNING)) (E_WARNING : Exa Z h0 a_WARNING "com/example/fapiao_lens/fapiaolens/Status") (S_INCORRECT : Sta Z h0 "com/example/fapiao_lens/fapiaolens/Status" "INCORRECT" "Lcom/example/fapiao_lens/fapiaolens/Status;" (.ref a_INCORRECT)) (E_INCORRECT : Exa Z h0 a_INCORRECT "com/example/fapiao_lens/fapiaolens/Status") (S_CONFIRMED : Sta Z h0 "com/example/fapiao_lens/fapiaolens/Status" "CONFIRMED" "Lcom/example/fapiao_lens/fapiaolens/Status;" (.ref a_CONFIRMED)) (E_CONFIRMED : Exa Z h0 a_CONFIRMED "com/example/fapiao_lens/fapiaolens/Status") (F_CORRECT_ordinal : Fld Z h0 a_CORRECT "java/lang/Enum" "ordinal" "I" (.int (0 : Int32))) (F_MISSING_ordinal : Fld Z h0 a_MISSING "java/lang/Enum" "ordinal" "I" (.int (3 : Int32))) (F_ABSENT_ordinal : Fld Z h0 a_ABSENT "java/lang/Enum" "ordinal" "I" (.int (4 : Int32))) (F_WARNING_ordinal : Fld Z h0 a_WARNING "java/lang/Enum" "ordinal" "I" (.int (1 : Int32))) (F_INCORRECT_ordinal : Fld Z h0 a_INCORRECT "java/lang/Enum" "ordinal" "I" (.int (2 : Int32))) (F_CONFIRMED_ordinal : Fld Z h0 a_CONFIRMED "java/lang/Enum" "ordinal" "I" (.int (5 : Int32))) :
    MetFree l (⟨"com/example/fapiao_lens/fapiaolens/StatusCarriesValuePinLaw", "pick", "(I)Lcom/example/fapiao_lens/fapiaolens/Status;"⟩ : MethodName) (head1 (Jvm.Cond.code (⟨"com/example/fapiao_lens/fapiaolens/StatusCarriesValuePinLaw", "pick", "(I)Lcom/example/fapiao_lens/fapiaolens/Status;"⟩ : MethodName) method_2_code 1 (some (.object "com/example/fapiao_lens/fapiaolens/Status")) :: ws) ({ frames := 0, cells := 0, slots := 0, locals := 0 } : Room)) (fun a U => a = #[(.int (5 : Int32))] ∧ Z.Warmed39 U.vm ∧ U.heap = h0) (fun _ _ _ _ _ => True) (fun _ U o U' => ∃ v L, o = .returned v ∧ QP (.ref a_CONFIRMED) h0 n0 v U'.heap L ∧ FrameEnd U o U' L ({ frames := 0, cells := 0, slots := 0, locals := 0 } : Room).cells ({ frames := 0, cells := 0, slots := 0, locals := 0 } : Room).slots) := by
  refine MetFree.of_bodySF (plainFor_of_name own_pn0) hisR ?_
  intro p e s m args below meth c s₁ Bd hml0 hP hK
  obtain ⟨rfl, hZ, hh⟩ := hP
  have hx := Bd.exec
  have hby := Bd.bytes
  have hml : c.maxLocals = 1 := hml0
  have hown : s.vm.findClass "com/example/fapiao_lens/fapiaolens/StatusCarriesValuePinLaw" = some m.cls := findClass_of_methodNamed Bd.named
  have hnm := (name_of_methodNamed Bd.named Bd.method).1
  have X0 : Stand p l e ({ frames := 0, cells := 0, slots := 0, locals := 0 } : Room) s m #[(.int (5 : Int32))] below meth c s₁ [] 0 0 := Stand.of_body Bd
  have e0 : s₁.heap = h0 := by rw [← hh, Bd.state]; rfl
  have N0 := Fr.nil n0
  have pre0 : ∀ t, Steps p.tables e below (s₁.setTop (mkF m 0 #[.val (.int (5 : Int32))] [])) t → Steps p.tables e below (s₁.setTop (entryFrame m #[(.int (5 : Int32))] 1)) t := fun t k => castTop (own_ef_rm1_5 m (5 : Int32)) k
  obtain ⟨T1, X1, e1, st1⟩ := getS2 X0 hx hZ hown (host := "") (Or.inl (hw _ (List.mem_of_getElem? (i := 26) rfl))) Via.refl e0 S_CONFIRMED (g := (mkF m 44 #[.val (.int (5 : Int32))] [])) rfl (hb hby own_d_method_2_code_44)
  have pre2 : ∀ t, Steps p.tables e below (T1.setTop (mkF m 47 #[.val (.int (5 : Int32))] [(.ref a_CONFIRMED)])) t → Steps p.tables e below (s₁.setTop (entryFrame m #[(.int (5 : Int32))] 1)) t := fun t k => pre0 t (by
    show Steps p.tables e below (s₁.setTop (mkF m 0 #[.val (.int (5 : Int32))] [])) _
    refine XS.iloadN X0.here hx rfl (hb hby own_d_method_2_code_0) rfl ?_
    show Steps p.tables e below (s₁.setTop (mkF m 1 #[.val (.int (5 : Int32))] [(.int (5 : Int32))])) _
    refine XS.ifYes X0.here hx rfl (pc0 := 1) (pc' := 8) rfl (hb hby own_d_method_2_code_1) rfl ((if0 _ _).trans (feq ((by decide) : ¬ ((5 : Int32) = (0 : Int32)))).2) (by decide) (by decide) ?_
    show Steps p.tables e below (s₁.setTop (mkF m 8 #[.val (.int (5 : Int32))] [])) _
    refine XS.iloadN X0.here hx rfl (hb hby own_d_method_2_code_8) rfl ?_
    show Steps p.tables e below (s₁.setTop (mkF m 9 #[.val (.int (5 : Int32))] [(.int (5 : Int32))])) _
    refine XS.iconst X0.here hx rfl (hb hby own_d_method_2_code_9) ?_
    show Steps p.tables e below (s₁.setTop (mkF m 10 #[.val (.int (5 : Int32))] [(.int (1 : Int32)), (.int (5 : Int32))])) _
    refine XS.icmpYes X0.here hx rfl (pc0 := 10) (pc' := 17) rfl (hb hby own_d_method_2_code_10) rfl (feq ((by decide) : ¬ ((5 : Int32) = (1 : Int32)))).2 (by decide) (by decide) ?_
    show Steps p.tables e below (s₁.setTop (mkF m 17 #[.val (.int (5 : Int32))] [])) _
    refine XS.iloadN X0.here hx rfl (hb hby own_d_method_2_code_17) rfl ?_
    show Steps p.tables e below (s₁.setTop (mkF m 18 #[.val (.int (5 : Int32))] [(.int (5 : Int32))])) _
    refine XS.iconst X0.here hx rfl (hb hby own_d_method_2_code_18) ?_
    show Steps p.tables e below (s₁.setTop (mkF m 19 #[.val (.int (5 : Int32))] [(.int (2 : Int32)), (.int (5 : Int32))])) _
    refine XS.icmpYes X0.here hx rfl (pc0 := 19) (pc' := 26) rfl (hb hby own_d_method_2_code_19) rfl (feq ((by decide) : ¬ ((5 : Int32) = (2 : Int32)))).2 (by decide) (by decide) ?_
    show Steps p.tables e below (s₁.setTop (mkF m 26 #[.val (.int (5 : Int32))] [])) _
    refine XS.iloadN X0.here hx rfl (hb hby own_d_method_2_code_26) rfl ?_
    show Steps p.tables e below (s₁.setTop (mkF m 27 #[.val (.int (5 : Int32))] [(.int (5 : Int32))])) _
    refine XS.iconst X0.here hx rfl (hb hby own_d_method_2_code_27) ?_
    show Steps p.tables e below (s₁.setTop (mkF m 28 #[.val (.int (5 : Int32))] [(.int (3 : Int32)), (.int (5 : Int32))])) _
    refine XS.icmpYes X0.here hx rfl (pc0 := 28) (pc' := 35) rfl (hb hby own_d_method_2_code_28) rfl (feq ((by decide) : ¬ ((5 : Int32) = (3 : Int32)))).2 (by decide) (by decide) ?_
    show Steps p.tables e below (s₁.setTop (mkF m 35 #[.val (.int (5 : Int32))] [])) _
    refine XS.iloadN X0.here hx rfl (hb hby own_d_method_2_code_35) rfl ?_
    show Steps p.tables e below (s₁.setTop (mkF m 36 #[.val (.int (5 : Int32))] [(.int (5 : Int32))])) _
    refine XS.iconst X0.here hx rfl (hb hby own_d_method_2_code_36) ?_
    show Steps p.tables e below (s₁.setTop (mkF m 37 #[.val (.int (5 : Int32))] [(.int (4 : Int32)), (.int (5 : Int32))])) _
    refine XS.icmpYes X0.here hx rfl (pc0 := 37) (pc' := 44) rfl (hb hby own_d_method_2_code_37) rfl (feq ((by decide) : ¬ ((5 : Int32) = (4 : Int32)))).2 (by decide) (by decide) ?_
    show Steps p.tables e below (s₁.setTop (mkF m 44 #[.val (.int (5 : Int32))] [])) _
    refine st1 _ ?_
    exact k)
  obtain ⟨fs, hr, hrun, hended, hW, hsame⟩ := X1.leave (v := some (.ref a_CONFIRMED)) (fun h => by rw [Bd.returns] at h; cases h)
  refine ⟨_, _, pre2 _ ?_, hrun, hended, _, _, rfl, ?_, ⟨_, rfl⟩, hW, hsame.mono (by decide) (by decide)⟩
  · show Steps p.tables e below (T1.setTop (mkF m 47 #[.val (.int (5 : Int32))] [(.ref a_CONFIRMED)])) _
    exact retOut X1 hx (t := (.object "com/example/fapiao_lens/fapiaolens/Status")) (i := .areturn) Bd.returns rfl (Or.inr (Or.inr (Or.inr (Or.inr ⟨rfl, rfl, rfl⟩)))) (hb hby own_d_method_2_code_47) hr
  · show QP (.ref a_CONFIRMED) h0 n0 _ T1.heap _
    rw [e1]
    exact ⟨rfl, N0, rfl⟩
theorem own_ef_rm2_5 (m : MethodId) (y0 : Addr) : entryFrame m #[(.ref y0)] 1 = mkF m 0 #[.val (.ref y0)] [] := by first | (simp [entryFrame, mkF, argsToLocals, Value.category]; done) | rfl
set_option maxRecDepth 65536 in
set_option maxHeartbeats 40000000 in
theorem rm2_5 (l : Launch) (Z : State) (a0 : Array Value) (hw : ∀ d ∈ tables_1, d.before a0 Z = true) (ws : List Jvm.Cond) (a_CORRECT : Addr) (a_MISSING : Addr) (a_ABSENT : Addr) (a_WARNING : Addr) (a_INCORRECT : Addr) (a_CONFIRMED : Addr) (h0 : Heap) (n0 : Nat) (Z0 : n0 ≤ h0.size) (S_CORRECT : Sta Z h0 "com/example/fapiao_lens/fapiaolens/Status" "CORRECT" "Lcom/example/fapiao_lens/fapiaolens/Status;" (.ref a_CORRECT)) (E_CORRECT : Exa Z h0 a_CORRECT "com/example/fapiao_lens/fapiaolens/Status") (S_MISSING : Sta Z h0 "com/example/fapiao_lens/fapiaolens/Status" "MISSING" "Lcom/example/fapiao_lens/fapiaolens/Status;" (.ref a_MISSING)) (E_MISSING : Exa Z h0 a_MISSING "com/example/fapiao_lens/fapiaolens/Status") (S_ABSENT : Sta Z h0 "com/example/fapiao_lens/fapiaolens/Status" "ABSENT" "Lcom/example/fapiao_lens/fapiaolens/Status;" (.ref a_ABSENT)) (E_ABSENT : Exa Z h0 a_ABSENT "com/example/fapiao_lens/fapiaolens/Status") (S_WARNING : Sta Z h0 "com/example/fapiao_lens/fapiaolens/Status" "WARNING" "Lcom/example/fapiao_lens/fapiaolens/Status;" (.ref a_WARNING)) (E_WARNING : Exa Z h0 a_WARNING "com/example/fapiao_lens/fapiaolens/Status") (S_INCORRECT : Sta Z h0 "com/example/fapiao_lens/fapiaolens/Status" "INCORRECT" "Lcom/example/fapiao_lens/fapiaolens/Status;" (.ref a_INCORRECT)) (E_INCORRECT : Exa Z h0 a_INCORRECT "com/example/fapiao_lens/fapiaolens/Status") (S_CONFIRMED : Sta Z h0 "com/example/fapiao_lens/fapiaolens/Status" "CONFIRMED" "Lcom/example/fapiao_lens/fapiaolens/Status;" (.ref a_CONFIRMED)) (E_CONFIRMED : Exa Z h0 a_CONFIRMED "com/example/fapiao_lens/fapiaolens/Status") (F_CORRECT_ordinal : Fld Z h0 a_CORRECT "java/lang/Enum" "ordinal" "I" (.int (0 : Int32))) (F_MISSING_ordinal : Fld Z h0 a_MISSING "java/lang/Enum" "ordinal" "I" (.int (3 : Int32))) (F_ABSENT_ordinal : Fld Z h0 a_ABSENT "java/lang/Enum" "ordinal" "I" (.int (4 : Int32))) (F_WARNING_ordinal : Fld Z h0 a_WARNING "java/lang/Enum" "ordinal" "I" (.int (1 : Int32))) (F_INCORRECT_ordinal : Fld Z h0 a_INCORRECT "java/lang/Enum" "ordinal" "I" (.int (2 : Int32))) (F_CONFIRMED_ordinal : Fld Z h0 a_CONFIRMED "java/lang/Enum" "ordinal" "I" (.int (5 : Int32))) :
    MetFree l (⟨"com/example/fapiao_lens/fapiaolens/Status", "carriesValue", "()Z"⟩ : MethodName) (head1 (Jvm.Cond.code (⟨"com/example/fapiao_lens/fapiaolens/Status", "carriesValue", "()Z"⟩ : MethodName) prog_59_method_6_code 1 (some .boolean) :: ws) ({ frames := 0, cells := 0, slots := 0, locals := 0 } : Room)) (fun a U => a = #[(.ref a_CONFIRMED)] ∧ Z.Warmed39 U.vm ∧ U.heap = h0) (fun _ _ _ _ _ => True) (fun _ U o U' => ∃ v L, o = .returned v ∧ QP (.int (1 : Int32)) h0 n0 v U'.heap L ∧ FrameEnd U o U' L ({ frames := 0, cells := 0, slots := 0, locals := 0 } : Room).cells ({ frames := 0, cells := 0, slots := 0, locals := 0 } : Room).slots) := by
  refine MetFree.of_bodySF (plainFor_of_name own_pn1) hisR ?_
  intro p e s m args below meth c s₁ Bd hml0 hP hK
  obtain ⟨rfl, hZ, hh⟩ := hP
  have hx := Bd.exec
  have hby := Bd.bytes
  have hml : c.maxLocals = 1 := hml0
  have hown : s.vm.findClass "com/example/fapiao_lens/fapiaolens/Status" = some m.cls := findClass_of_methodNamed Bd.named
  have hnm := (name_of_methodNamed Bd.named Bd.method).1
  have X0 : Stand p l e ({ frames := 0, cells := 0, slots := 0, locals := 0 } : Room) s m #[(.ref a_CONFIRMED)] below meth c s₁ [] 0 0 := Stand.of_body Bd
  have e0 : s₁.heap = h0 := by rw [← hh, Bd.state]; rfl
  have N0 := Fr.nil n0
  have pre0 : ∀ t, Steps p.tables e below (s₁.setTop (mkF m 0 #[.val (.ref a_CONFIRMED)] [])) t → Steps p.tables e below (s₁.setTop (entryFrame m #[(.ref a_CONFIRMED)] 1)) t := fun t k => castTop (own_ef_rm2_5 m a_CONFIRMED) k
  obtain ⟨T1, X1, e1, st1⟩ := getS2 X0 hx hZ hown (host := "") (Or.inl (hw _ (List.mem_of_getElem? (i := 17) rfl))) Via.refl e0 S_CORRECT (g := (mkF m 1 #[.val (.ref a_CONFIRMED)] [(.ref a_CONFIRMED)])) rfl (hb hby own_d_prog_59_method_6_code_1)
  obtain ⟨T2, X2, e2, st2⟩ := getS2 X1 hx hZ hown (host := "") (Or.inl (hw _ (List.mem_of_getElem? (i := 18) rfl))) Via.refl e1 S_WARNING (g := (mkF m 8 #[.val (.ref a_CONFIRMED)] [(.ref a_CONFIRMED)])) rfl (hb hby own_d_prog_59_method_6_code_8)
  obtain ⟨T3, X3, e3, st3⟩ := getS2 X2 hx hZ hown (host := "") (Or.inl (hw _ (List.mem_of_getElem? (i := 20) rfl))) Via.refl e2 S_INCORRECT (g := (mkF m 15 #[.val (.ref a_CONFIRMED)] [(.ref a_CONFIRMED)])) rfl (hb hby own_d_prog_59_method_6_code_15)
  obtain ⟨T4, X4, e4, st4⟩ := getS2 X3 hx hZ hown (host := "") (Or.inl (hw _ (List.mem_of_getElem? (i := 22) rfl))) Via.refl e3 S_CONFIRMED (g := (mkF m 22 #[.val (.ref a_CONFIRMED)] [(.ref a_CONFIRMED)])) rfl (hb hby own_d_prog_59_method_6_code_22)
  have pre5 : ∀ t, Steps p.tables e below (T4.setTop (mkF m 33 #[.val (.ref a_CONFIRMED)] [(.int (1 : Int32))])) t → Steps p.tables e below (s₁.setTop (entryFrame m #[(.ref a_CONFIRMED)] 1)) t := fun t k => pre0 t (by
    show Steps p.tables e below (s₁.setTop (mkF m 0 #[.val (.ref a_CONFIRMED)] [])) _
    refine XS.aloadN X0.here hx rfl (hb hby own_d_prog_59_method_6_code_0) rfl rfl ?_
    show Steps p.tables e below (s₁.setTop (mkF m 1 #[.val (.ref a_CONFIRMED)] [(.ref a_CONFIRMED)])) _
    refine st1 _ ?_
    show Steps p.tables e below (T1.setTop (mkF m 4 #[.val (.ref a_CONFIRMED)] [(.ref a_CORRECT), (.ref a_CONFIRMED)])) _
    refine Jvm.RoadKit.acmp (g := (mkF m 4 #[.val (.ref a_CONFIRMED)] [(.ref a_CORRECT), (.ref a_CONFIRMED)])) X1 hx rfl rfl rfl (pc0 := 4) (pc' := 7) (same := false) rfl (hb hby own_d_prog_59_method_6_code_4) rfl (decide_eq_false fun q => ((Fld.ne F_CONFIRMED_ordinal F_CORRECT_ordinal (by decide)) : ¬ (a_CONFIRMED = a_CORRECT)) (Value.ref.inj q)) (by decide) (by decide) ?_
    show Steps p.tables e below (T1.setTop (mkF m 7 #[.val (.ref a_CONFIRMED)] [])) _
    refine XS.aloadN X1.here hx rfl (hb hby own_d_prog_59_method_6_code_7) rfl rfl ?_
    show Steps p.tables e below (T1.setTop (mkF m 8 #[.val (.ref a_CONFIRMED)] [(.ref a_CONFIRMED)])) _
    refine st2 _ ?_
    show Steps p.tables e below (T2.setTop (mkF m 11 #[.val (.ref a_CONFIRMED)] [(.ref a_WARNING), (.ref a_CONFIRMED)])) _
    refine Jvm.RoadKit.acmp (g := (mkF m 11 #[.val (.ref a_CONFIRMED)] [(.ref a_WARNING), (.ref a_CONFIRMED)])) X2 hx rfl rfl rfl (pc0 := 11) (pc' := 14) (same := false) rfl (hb hby own_d_prog_59_method_6_code_11) rfl (decide_eq_false fun q => ((Fld.ne F_CONFIRMED_ordinal F_WARNING_ordinal (by decide)) : ¬ (a_CONFIRMED = a_WARNING)) (Value.ref.inj q)) (by decide) (by decide) ?_
    show Steps p.tables e below (T2.setTop (mkF m 14 #[.val (.ref a_CONFIRMED)] [])) _
    refine XS.aloadN X2.here hx rfl (hb hby own_d_prog_59_method_6_code_14) rfl rfl ?_
    show Steps p.tables e below (T2.setTop (mkF m 15 #[.val (.ref a_CONFIRMED)] [(.ref a_CONFIRMED)])) _
    refine st3 _ ?_
    show Steps p.tables e below (T3.setTop (mkF m 18 #[.val (.ref a_CONFIRMED)] [(.ref a_INCORRECT), (.ref a_CONFIRMED)])) _
    refine Jvm.RoadKit.acmp (g := (mkF m 18 #[.val (.ref a_CONFIRMED)] [(.ref a_INCORRECT), (.ref a_CONFIRMED)])) X3 hx rfl rfl rfl (pc0 := 18) (pc' := 21) (same := false) rfl (hb hby own_d_prog_59_method_6_code_18) rfl (decide_eq_false fun q => ((Fld.ne F_CONFIRMED_ordinal F_INCORRECT_ordinal (by decide)) : ¬ (a_CONFIRMED = a_INCORRECT)) (Value.ref.inj q)) (by decide) (by decide) ?_
    show Steps p.tables e below (T3.setTop (mkF m 21 #[.val (.ref a_CONFIRMED)] [])) _
    refine XS.aloadN X3.here hx rfl (hb hby own_d_prog_59_method_6_code_21) rfl rfl ?_
    show Steps p.tables e below (T3.setTop (mkF m 22 #[.val (.ref a_CONFIRMED)] [(.ref a_CONFIRMED)])) _
    refine st4 _ ?_
    show Steps p.tables e below (T4.setTop (mkF m 25 #[.val (.ref a_CONFIRMED)] [(.ref a_CONFIRMED), (.ref a_CONFIRMED)])) _
    refine Jvm.RoadKit.acmp (g := (mkF m 25 #[.val (.ref a_CONFIRMED)] [(.ref a_CONFIRMED), (.ref a_CONFIRMED)])) X4 hx rfl rfl rfl (pc0 := 25) (pc' := 28) (same := true) rfl (hb hby own_d_prog_59_method_6_code_25) rfl (decide_eq_true (rfl)) (by decide) (by decide) ?_
    show Steps p.tables e below (T4.setTop (mkF m 28 #[.val (.ref a_CONFIRMED)] [])) _
    refine XS.iconst X4.here hx rfl (hb hby own_d_prog_59_method_6_code_28) ?_
    show Steps p.tables e below (T4.setTop (mkF m 29 #[.val (.ref a_CONFIRMED)] [(.int (1 : Int32))])) _
    refine XS.goto X4.here hx rfl (pc0 := 29) (pc' := 33) rfl (hb hby own_d_prog_59_method_6_code_29) (by decide) (by decide) ?_
    exact k)
  obtain ⟨fs, hr, hrun, hended, hW, hsame⟩ := X4.leave (v := some (.int (nar .boolean (1 : Int32)))) (fun h => by rw [Bd.returns] at h; cases h)
  refine ⟨_, _, pre5 _ ?_, hrun, hended, _, _, rfl, ?_, ⟨_, rfl⟩, hW, hsame.mono (by decide) (by decide)⟩
  · show Steps p.tables e below (T4.setTop (mkF m 33 #[.val (.ref a_CONFIRMED)] [(.int (1 : Int32))])) _
    exact retN X4 hx (t := .boolean) Bd.returns (by simp) (hb hby own_d_prog_59_method_6_code_33) hr
  · show QP (.int (1 : Int32)) h0 n0 _ T4.heap _
    rw [e4]
    exact ⟨rfl, N0, rfl⟩
theorem own_ef_rm0 (m : MethodId) (y0 : Int32) : entryFrame m #[(.int y0)] maxLocals = mkF m 0 #[.val (.int y0), .unset, .unset, .unset] [] := by first | (simp [entryFrame, mkF, argsToLocals, Value.category, maxLocals]; done) | rfl
set_option maxRecDepth 65536 in
set_option maxHeartbeats 40000000 in
theorem rm0 (l : Launch) (Z : State) (a0 : Array Value) (hw : ∀ d ∈ tables_1, d.before a0 Z = true) (ws : List Jvm.Cond) (p1 : Int32) (a_CORRECT : Addr) (a_MISSING : Addr) (a_ABSENT : Addr) (a_WARNING : Addr) (a_INCORRECT : Addr) (a_CONFIRMED : Addr) (h0 : Heap) (n0 : Nat) (Z0 : n0 ≤ h0.size) (S_CORRECT : Sta Z h0 "com/example/fapiao_lens/fapiaolens/Status" "CORRECT" "Lcom/example/fapiao_lens/fapiaolens/Status;" (.ref a_CORRECT)) (E_CORRECT : Exa Z h0 a_CORRECT "com/example/fapiao_lens/fapiaolens/Status") (S_MISSING : Sta Z h0 "com/example/fapiao_lens/fapiaolens/Status" "MISSING" "Lcom/example/fapiao_lens/fapiaolens/Status;" (.ref a_MISSING)) (E_MISSING : Exa Z h0 a_MISSING "com/example/fapiao_lens/fapiaolens/Status") (S_ABSENT : Sta Z h0 "com/example/fapiao_lens/fapiaolens/Status" "ABSENT" "Lcom/example/fapiao_lens/fapiaolens/Status;" (.ref a_ABSENT)) (E_ABSENT : Exa Z h0 a_ABSENT "com/example/fapiao_lens/fapiaolens/Status") (S_WARNING : Sta Z h0 "com/example/fapiao_lens/fapiaolens/Status" "WARNING" "Lcom/example/fapiao_lens/fapiaolens/Status;" (.ref a_WARNING)) (E_WARNING : Exa Z h0 a_WARNING "com/example/fapiao_lens/fapiaolens/Status") (S_INCORRECT : Sta Z h0 "com/example/fapiao_lens/fapiaolens/Status" "INCORRECT" "Lcom/example/fapiao_lens/fapiaolens/Status;" (.ref a_INCORRECT)) (E_INCORRECT : Exa Z h0 a_INCORRECT "com/example/fapiao_lens/fapiaolens/Status") (S_CONFIRMED : Sta Z h0 "com/example/fapiao_lens/fapiaolens/Status" "CONFIRMED" "Lcom/example/fapiao_lens/fapiaolens/Status;" (.ref a_CONFIRMED)) (E_CONFIRMED : Exa Z h0 a_CONFIRMED "com/example/fapiao_lens/fapiaolens/Status") (F_CORRECT_ordinal : Fld Z h0 a_CORRECT "java/lang/Enum" "ordinal" "I" (.int (0 : Int32))) (F_MISSING_ordinal : Fld Z h0 a_MISSING "java/lang/Enum" "ordinal" "I" (.int (3 : Int32))) (F_ABSENT_ordinal : Fld Z h0 a_ABSENT "java/lang/Enum" "ordinal" "I" (.int (4 : Int32))) (F_WARNING_ordinal : Fld Z h0 a_WARNING "java/lang/Enum" "ordinal" "I" (.int (1 : Int32))) (F_INCORRECT_ordinal : Fld Z h0 a_INCORRECT "java/lang/Enum" "ordinal" "I" (.int (2 : Int32))) (F_CONFIRMED_ordinal : Fld Z h0 a_CONFIRMED "java/lang/Enum" "ordinal" "I" (.int (5 : Int32))) :
    MetFree l x (head1 (Jvm.Cond.code x code maxLocals ret :: ws) room_1) (fun a U => a = #[(.int p1)] ∧ Z.Warmed39 U.vm ∧ U.heap = h0) (fun _ _ _ _ _ => True) (fun _ U o U' => ∃ v L, o = .returned v ∧ QL n0 v U'.heap L ∧ FrameEnd U o U' L 0 0) := by
  refine MetFree.of_bodySF (plainFor_of_name own_pn0) hisR ?_
  intro p e s m args below meth c s₁ Bd hml0 hP hK
  obtain ⟨rfl, hZ, hh⟩ := hP
  have hx := Bd.exec
  have hby := Bd.bytes
  have hml : c.maxLocals = 4 := hml0
  have hown : s.vm.findClass "com/example/fapiao_lens/fapiaolens/StatusCarriesValuePinLaw" = some m.cls := findClass_of_methodNamed Bd.named
  have hnm := (name_of_methodNamed Bd.named Bd.method).1
  have X0 : Stand p l e room_1 s m #[(.int p1)] below meth c s₁ [] 0 0 := Stand.of_body Bd
  have e0 : s₁.heap = h0 := by rw [← hh, Bd.state]; rfl
  have N0 := Fr.nil n0
  have pre0 : ∀ t, Steps p.tables e below (s₁.setTop (mkF m 0 #[.val (.int p1), .unset, .unset, .unset] [])) t → Steps p.tables e below (s₁.setTop (entryFrame m #[(.int p1)] maxLocals)) t := fun t k => castTop (own_ef_rm0 m p1) k
  have hk := own_k p1
  have pre1 : ∀ t, Steps p.tables e below (s₁.setTop (mkF m 7 #[.val (.int p1), .unset, .unset, .unset] [(.int ((p1 &&& (2147483647 : Int32)) % (6 : Int32)))])) t → Steps p.tables e below (s₁.setTop (entryFrame m #[(.int p1)] maxLocals)) t := fun t k => pre0 t (by
    show Steps p.tables e below (s₁.setTop (mkF m 0 #[.val (.int p1), .unset, .unset, .unset] [])) _
    refine XS.iloadN X0.here hx rfl (hb hby at_0) rfl ?_
    show Steps p.tables e below (s₁.setTop (mkF m 1 #[.val (.int p1), .unset, .unset, .unset] [(.int p1)])) _
    refine X0.ldcInt hx hown (mvT hZ (hw _ (List.mem_of_getElem? (i := 0) rfl))) (g := (mkF m 1 #[.val (.int p1), .unset, .unset, .unset] [(.int p1)])) rfl (hb hby at_1) _ ?_
    show Steps p.tables e below (s₁.setTop (mkF m 3 #[.val (.int p1), .unset, .unset, .unset] [(.int (2147483647 : Int32)), (.int p1)])) _
    refine XS.iand X0.here hx rfl (hb hby at_3) rfl ?_
    show Steps p.tables e below (s₁.setTop (mkF m 4 #[.val (.int p1), .unset, .unset, .unset] [(.int (p1 &&& (2147483647 : Int32)))])) _
    refine XS.bipush X0.here hx rfl (hb hby at_4) ?_
    show Steps p.tables e below (s₁.setTop (mkF m 6 #[.val (.int p1), .unset, .unset, .unset] [(.int (6 : Int32)), (.int (p1 &&& (2147483647 : Int32)))])) _
    refine iremM X0 hx rfl (hb hby at_6) rfl (by decide) ?_
    exact k)
  obtain ⟨k0, h_k0⟩ : ∃ z : Int32, z = ((p1 &&& (2147483647 : Int32)) % (6 : Int32)) := ⟨_, rfl⟩
  rw [← h_k0] at pre1
  rw [← h_k0] at hk
  rcases hk with hk | hk | hk | hk | hk | hk
  · subst hk
    obtain ⟨_, _, ⟨T2, L2, k2, n2⟩, -, X2, ⟨Lc2, hQ2, l2, y2, z2⟩, st2⟩ := Jvm.LawKit.callS X0 hx (y := (⟨"com/example/fapiao_lens/fapiaolens/StatusCarriesValuePinLaw", "pick", "(I)Lcom/example/fapiao_lens/fapiaolens/Status;"⟩ : MethodName)) hown (mvT hZ (hw _ (List.mem_of_getElem? (i := 1) rfl))) (mvT hZ (hw _ (List.mem_of_getElem? (i := 2) rfl))) (mvT hZ (hw _ (List.mem_of_getElem? (i := 3) rfl))) (mvT hZ (hw _ (List.mem_of_getElem? (i := 4) rfl))) (by decide) (backOf (W := 0) (rm1_0 l Z a0 hw []  a_CORRECT a_MISSING a_ABSENT a_WARNING a_INCORRECT a_CONFIRMED h0 n0 Z0 S_CORRECT E_CORRECT S_MISSING E_MISSING S_ABSENT E_ABSENT S_WARNING E_WARNING S_INCORRECT E_INCORRECT S_CONFIRMED E_CONFIRMED F_CORRECT_ordinal F_MISSING_ordinal F_ABSENT_ordinal F_WARNING_ordinal F_INCORRECT_ordinal F_CONFIRMED_ordinal) hZ (hw _ (List.mem_of_getElem? (i := 4) rfl)) (hw _ (List.mem_of_getElem? (i := 3) rfl)) (by decide) (by decide)) (g := (mkF m 9 #[.val (.int p1), .val (.int (0 : Int32)), .unset, .unset] [(.int (0 : Int32))])) rfl (by rw [hml]; rfl) (argsL := [(.int (0 : Int32))]) (rest := []) (lenOf own_pd0 rfl) rfl (by show 2 * 0 + _ ≤ _; exact Nat.le_of_eq rfl) (hb hby at_9) (fun _ _ => ⟨rfl, e0, (by decide : 0 + 0 ≤ _), (by decide : 0 + 0 ≤ _)⟩)
    dsimp only [Pt.U, Pt.locs, Pt.cells, Pt.slots] at X2 l2 y2 z2 st2 hQ2
    subst l2 y2 z2
    obtain ⟨rfl, N2q, e2⟩ := hQ2
    have N2 := Fr.app N0 N2q
    obtain ⟨T3, X3, e3, st3⟩ := getS2 X2 hx hZ hown (host := "") (Or.inl (hw _ (List.mem_of_getElem? (i := 8) rfl))) Via.refl e2 S_MISSING (g := (mkF m 14 #[.val (.int p1), .val (.int (0 : Int32)), .val (.ref a_CORRECT), .unset] [(.ref a_CORRECT)])) rfl (hb hby at_14)
    obtain ⟨T4, X4, e4, st4⟩ := getS2 X3 hx hZ hown (host := "") (Or.inl (hw _ (List.mem_of_getElem? (i := 10) rfl))) Via.refl e3 S_ABSENT (g := (mkF m 21 #[.val (.int p1), .val (.int (0 : Int32)), .val (.ref a_CORRECT), .unset] [(.ref a_CORRECT)])) rfl (hb hby at_21)
    obtain ⟨cq5, kq5, q5a, q5b, q5c⟩ := isOf hZ e4 E_CORRECT
    obtain ⟨_, _, ⟨T5, L5, k5, n5⟩, -, X5, ⟨Lc5, hQ5, l5, y5, z5⟩, st5⟩ := X4.virtualBack hx (y := (⟨"com/example/fapiao_lens/fapiaolens/Status", "carriesValue", "()Z"⟩ : MethodName)) (z := (⟨"com/example/fapiao_lens/fapiaolens/Status", "carriesValue", "()Z"⟩ : MethodName)) hown (mvT hZ (hw _ (List.mem_of_getElem? (i := 12) rfl))) (mvT hZ (hw _ (List.mem_of_getElem? (i := 13) rfl))) (notFace_of_selects (args := #[]) (mvT hZ (hw _ (List.mem_of_getElem? (i := 15) rfl)))) (mvT hZ (hw _ (List.mem_of_getElem? (i := 15) rfl))) (mvT hZ (hw _ (List.mem_of_getElem? (i := 14) rfl))) (by decide) (backOf (W := 0) (rm2_0 l Z a0 hw []  a_CORRECT a_MISSING a_ABSENT a_WARNING a_INCORRECT a_CONFIRMED h0 n0 Z0 S_CORRECT E_CORRECT S_MISSING E_MISSING S_ABSENT E_ABSENT S_WARNING E_WARNING S_INCORRECT E_INCORRECT S_CONFIRMED E_CONFIRMED F_CORRECT_ordinal F_MISSING_ordinal F_ABSENT_ordinal F_WARNING_ordinal F_INCORRECT_ordinal F_CONFIRMED_ordinal) hZ (hw _ (List.mem_of_getElem? (i := 16) rfl)) (hw _ (List.mem_of_getElem? (i := 6) rfl)) (by decide) (by decide)) q5a q5c (g := (mkF m 34 #[.val (.int p1), .val (.int (0 : Int32)), .val (.ref a_CORRECT), .val (.int (1 : Int32))] [(.ref a_CORRECT)])) rfl (by rw [hml]; rfl) (Steps.refl _) (argsL := []) (rest := []) (lenOf own_pd1 rfl) rfl (by show 2 * 0 + _ ≤ _; exact Nat.le_of_eq rfl) (hb hby at_34) (fun _ _ => ⟨rfl, e4, (by decide : 0 + 0 ≤ _), (by decide : 0 + 0 ≤ _)⟩)
    dsimp only [Pt.U, Pt.locs, Pt.cells, Pt.slots] at X5 l5 y5 z5 st5 hQ5
    subst l5 y5 z5
    obtain ⟨rfl, N5q, e5⟩ := hQ5
    have N5 := Fr.app N2 N5q
    have pre6 : ∀ t, Steps p.tables e below (T5.setTop (mkF m 46 #[.val (.int p1), .val (.int (0 : Int32)), .val (.ref a_CORRECT), .val (.int (1 : Int32))] [(.int (1 : Int32))])) t → Steps p.tables e below (s₁.setTop (entryFrame m #[(.int p1)] maxLocals)) t := fun t k => pre1 t (by
      show Steps p.tables e below (s₁.setTop (mkF m 7 #[.val (.int p1), .unset, .unset, .unset] [(.int (0 : Int32))])) _
      refine XS.istoreN X0.here hx rfl (hb hby at_7) rfl (l' := #[.val (.int p1), .val (.int (0 : Int32)), .unset, .unset]) rfl ?_
      show Steps p.tables e below (s₁.setTop (mkF m 8 #[.val (.int p1), .val (.int (0 : Int32)), .unset, .unset] [])) _
      refine XS.iloadN X0.here hx rfl (hb hby at_8) rfl ?_
      show Steps p.tables e below (s₁.setTop (mkF m 9 #[.val (.int p1), .val (.int (0 : Int32)), .unset, .unset] [(.int (0 : Int32))])) _
      refine st2 _ ?_
      show Steps p.tables e below (T2.setTop (mkF m 12 #[.val (.int p1), .val (.int (0 : Int32)), .unset, .unset] [(.ref a_CORRECT)])) _
      refine XS.astoreN X2.here hx rfl (hb hby at_12) rfl rfl (l' := #[.val (.int p1), .val (.int (0 : Int32)), .val (.ref a_CORRECT), .unset]) rfl ?_
      show Steps p.tables e below (T2.setTop (mkF m 13 #[.val (.int p1), .val (.int (0 : Int32)), .val (.ref a_CORRECT), .unset] [])) _
      refine XS.aloadN X2.here hx rfl (hb hby at_13) rfl rfl ?_
      show Steps p.tables e below (T2.setTop (mkF m 14 #[.val (.int p1), .val (.int (0 : Int32)), .val (.ref a_CORRECT), .unset] [(.ref a_CORRECT)])) _
      refine st3 _ ?_
      show Steps p.tables e below (T3.setTop (mkF m 17 #[.val (.int p1), .val (.int (0 : Int32)), .val (.ref a_CORRECT), .unset] [(.ref a_MISSING), (.ref a_CORRECT)])) _
      refine Jvm.RoadKit.acmp (g := (mkF m 17 #[.val (.int p1), .val (.int (0 : Int32)), .val (.ref a_CORRECT), .unset] [(.ref a_MISSING), (.ref a_CORRECT)])) X3 hx rfl rfl rfl (pc0 := 17) (pc' := 20) (same := false) rfl (hb hby at_17) rfl (decide_eq_false fun q => ((Fld.ne F_CORRECT_ordinal F_MISSING_ordinal (by decide)) : ¬ (a_CORRECT = a_MISSING)) (Value.ref.inj q)) (by decide) (by decide) ?_
      show Steps p.tables e below (T3.setTop (mkF m 20 #[.val (.int p1), .val (.int (0 : Int32)), .val (.ref a_CORRECT), .unset] [])) _
      refine XS.aloadN X3.here hx rfl (hb hby at_20) rfl rfl ?_
      show Steps p.tables e below (T3.setTop (mkF m 21 #[.val (.int p1), .val (.int (0 : Int32)), .val (.ref a_CORRECT), .unset] [(.ref a_CORRECT)])) _
      refine st4 _ ?_
      show Steps p.tables e below (T4.setTop (mkF m 24 #[.val (.int p1), .val (.int (0 : Int32)), .val (.ref a_CORRECT), .unset] [(.ref a_ABSENT), (.ref a_CORRECT)])) _
      refine Jvm.RoadKit.acmp (g := (mkF m 24 #[.val (.int p1), .val (.int (0 : Int32)), .val (.ref a_CORRECT), .unset] [(.ref a_ABSENT), (.ref a_CORRECT)])) X4 hx rfl rfl rfl (pc0 := 24) (pc' := 27) (same := false) rfl (hb hby at_24) rfl (decide_eq_false fun q => ((Fld.ne F_CORRECT_ordinal F_ABSENT_ordinal (by decide)) : ¬ (a_CORRECT = a_ABSENT)) (Value.ref.inj q)) (by decide) (by decide) ?_
      show Steps p.tables e below (T4.setTop (mkF m 27 #[.val (.int p1), .val (.int (0 : Int32)), .val (.ref a_CORRECT), .unset] [])) _
      refine XS.iconst X4.here hx rfl (hb hby at_27) ?_
      show Steps p.tables e below (T4.setTop (mkF m 28 #[.val (.int p1), .val (.int (0 : Int32)), .val (.ref a_CORRECT), .unset] [(.int (1 : Int32))])) _
      refine XS.goto X4.here hx rfl (pc0 := 28) (pc' := 32) rfl (hb hby at_28) (by decide) (by decide) ?_
      show Steps p.tables e below (T4.setTop (mkF m 32 #[.val (.int p1), .val (.int (0 : Int32)), .val (.ref a_CORRECT), .unset] [(.int (1 : Int32))])) _
      refine XS.istoreN X4.here hx rfl (hb hby at_32) rfl (l' := #[.val (.int p1), .val (.int (0 : Int32)), .val (.ref a_CORRECT), .val (.int (1 : Int32))]) rfl ?_
      show Steps p.tables e below (T4.setTop (mkF m 33 #[.val (.int p1), .val (.int (0 : Int32)), .val (.ref a_CORRECT), .val (.int (1 : Int32))] [])) _
      refine XS.aloadN X4.here hx rfl (hb hby at_33) rfl rfl ?_
      show Steps p.tables e below (T4.setTop (mkF m 34 #[.val (.int p1), .val (.int (0 : Int32)), .val (.ref a_CORRECT), .val (.int (1 : Int32))] [(.ref a_CORRECT)])) _
      refine st5.trans ?_
      show Steps p.tables e below (T5.setTop (mkF m 37 #[.val (.int p1), .val (.int (0 : Int32)), .val (.ref a_CORRECT), .val (.int (1 : Int32))] [(.int (1 : Int32))])) _
      refine XS.iloadN X5.here hx rfl (hb hby at_37) rfl ?_
      show Steps p.tables e below (T5.setTop (mkF m 38 #[.val (.int p1), .val (.int (0 : Int32)), .val (.ref a_CORRECT), .val (.int (1 : Int32))] [(.int (1 : Int32)), (.int (1 : Int32))])) _
      refine XS.icmpNo X5.here hx rfl (hb hby at_38) rfl (teq ((by decide) : (1 : Int32) = (1 : Int32))).2 ?_
      show Steps p.tables e below (T5.setTop (mkF m 41 #[.val (.int p1), .val (.int (0 : Int32)), .val (.ref a_CORRECT), .val (.int (1 : Int32))] [])) _
      refine XS.iconst X5.here hx rfl (hb hby at_41) ?_
      show Steps p.tables e below (T5.setTop (mkF m 42 #[.val (.int p1), .val (.int (0 : Int32)), .val (.ref a_CORRECT), .val (.int (1 : Int32))] [(.int (1 : Int32))])) _
      refine XS.goto X5.here hx rfl (pc0 := 42) (pc' := 46) rfl (hb hby at_42) (by decide) (by decide) ?_
      exact k)
    obtain ⟨fs, hr, hrun, hended, hW, hsame⟩ := X5.leave (v := some (.int (nar .boolean (1 : Int32)))) (fun h => by rw [Bd.returns] at h; cases h)
    refine ⟨_, _, pre6 _ ?_, hrun, hended, _, _, rfl, ?_, ⟨_, rfl⟩, hW, hsame.mono (by decide) (by decide)⟩
    · show Steps p.tables e below (T5.setTop (mkF m 46 #[.val (.int p1), .val (.int (0 : Int32)), .val (.ref a_CORRECT), .val (.int (1 : Int32))] [(.int (1 : Int32))])) _
      exact retN X5 hx (t := .boolean) Bd.returns (by simp) (hb hby at_46) hr
    · show QL n0 _ T5.heap _
      rw [e5]
      exact ⟨rfl, N5⟩
  · subst hk
    obtain ⟨_, _, ⟨T7, L7, k7, n7⟩, -, X7, ⟨Lc7, hQ7, l7, y7, z7⟩, st7⟩ := Jvm.LawKit.callS X0 hx (y := (⟨"com/example/fapiao_lens/fapiaolens/StatusCarriesValuePinLaw", "pick", "(I)Lcom/example/fapiao_lens/fapiaolens/Status;"⟩ : MethodName)) hown (mvT hZ (hw _ (List.mem_of_getElem? (i := 1) rfl))) (mvT hZ (hw _ (List.mem_of_getElem? (i := 2) rfl))) (mvT hZ (hw _ (List.mem_of_getElem? (i := 3) rfl))) (mvT hZ (hw _ (List.mem_of_getElem? (i := 4) rfl))) (by decide) (backOf (W := 0) (rm1_1 l Z a0 hw []  a_CORRECT a_MISSING a_ABSENT a_WARNING a_INCORRECT a_CONFIRMED h0 n0 Z0 S_CORRECT E_CORRECT S_MISSING E_MISSING S_ABSENT E_ABSENT S_WARNING E_WARNING S_INCORRECT E_INCORRECT S_CONFIRMED E_CONFIRMED F_CORRECT_ordinal F_MISSING_ordinal F_ABSENT_ordinal F_WARNING_ordinal F_INCORRECT_ordinal F_CONFIRMED_ordinal) hZ (hw _ (List.mem_of_getElem? (i := 4) rfl)) (hw _ (List.mem_of_getElem? (i := 3) rfl)) (by decide) (by decide)) (g := (mkF m 9 #[.val (.int p1), .val (.int (1 : Int32)), .unset, .unset] [(.int (1 : Int32))])) rfl (by rw [hml]; rfl) (argsL := [(.int (1 : Int32))]) (rest := []) (lenOf own_pd0 rfl) rfl (by show 2 * 0 + _ ≤ _; exact Nat.le_of_eq rfl) (hb hby at_9) (fun _ _ => ⟨rfl, e0, (by decide : 0 + 0 ≤ _), (by decide : 0 + 0 ≤ _)⟩)
    dsimp only [Pt.U, Pt.locs, Pt.cells, Pt.slots] at X7 l7 y7 z7 st7 hQ7
    subst l7 y7 z7
    obtain ⟨rfl, N7q, e7⟩ := hQ7
    have N7 := Fr.app N0 N7q
    obtain ⟨T8, X8, e8, st8⟩ := getS2 X7 hx hZ hown (host := "") (Or.inl (hw _ (List.mem_of_getElem? (i := 8) rfl))) Via.refl e7 S_MISSING (g := (mkF m 14 #[.val (.int p1), .val (.int (1 : Int32)), .val (.ref a_WARNING), .unset] [(.ref a_WARNING)])) rfl (hb hby at_14)
    obtain ⟨T9, X9, e9, st9⟩ := getS2 X8 hx hZ hown (host := "") (Or.inl (hw _ (List.mem_of_getElem? (i := 10) rfl))) Via.refl e8 S_ABSENT (g := (mkF m 21 #[.val (.int p1), .val (.int (1 : Int32)), .val (.ref a_WARNING), .unset] [(.ref a_WARNING)])) rfl (hb hby at_21)
    obtain ⟨cq10, kq10, q10a, q10b, q10c⟩ := isOf hZ e9 E_WARNING
    obtain ⟨_, _, ⟨T10, L10, k10, n10⟩, -, X10, ⟨Lc10, hQ10, l10, y10, z10⟩, st10⟩ := X9.virtualBack hx (y := (⟨"com/example/fapiao_lens/fapiaolens/Status", "carriesValue", "()Z"⟩ : MethodName)) (z := (⟨"com/example/fapiao_lens/fapiaolens/Status", "carriesValue", "()Z"⟩ : MethodName)) hown (mvT hZ (hw _ (List.mem_of_getElem? (i := 12) rfl))) (mvT hZ (hw _ (List.mem_of_getElem? (i := 13) rfl))) (notFace_of_selects (args := #[]) (mvT hZ (hw _ (List.mem_of_getElem? (i := 15) rfl)))) (mvT hZ (hw _ (List.mem_of_getElem? (i := 15) rfl))) (mvT hZ (hw _ (List.mem_of_getElem? (i := 14) rfl))) (by decide) (backOf (W := 0) (rm2_1 l Z a0 hw []  a_CORRECT a_MISSING a_ABSENT a_WARNING a_INCORRECT a_CONFIRMED h0 n0 Z0 S_CORRECT E_CORRECT S_MISSING E_MISSING S_ABSENT E_ABSENT S_WARNING E_WARNING S_INCORRECT E_INCORRECT S_CONFIRMED E_CONFIRMED F_CORRECT_ordinal F_MISSING_ordinal F_ABSENT_ordinal F_WARNING_ordinal F_INCORRECT_ordinal F_CONFIRMED_ordinal) hZ (hw _ (List.mem_of_getElem? (i := 16) rfl)) (hw _ (List.mem_of_getElem? (i := 6) rfl)) (by decide) (by decide)) q10a q10c (g := (mkF m 34 #[.val (.int p1), .val (.int (1 : Int32)), .val (.ref a_WARNING), .val (.int (1 : Int32))] [(.ref a_WARNING)])) rfl (by rw [hml]; rfl) (Steps.refl _) (argsL := []) (rest := []) (lenOf own_pd1 rfl) rfl (by show 2 * 0 + _ ≤ _; exact Nat.le_of_eq rfl) (hb hby at_34) (fun _ _ => ⟨rfl, e9, (by decide : 0 + 0 ≤ _), (by decide : 0 + 0 ≤ _)⟩)
    dsimp only [Pt.U, Pt.locs, Pt.cells, Pt.slots] at X10 l10 y10 z10 st10 hQ10
    subst l10 y10 z10
    obtain ⟨rfl, N10q, e10⟩ := hQ10
    have N10 := Fr.app N7 N10q
    have pre11 : ∀ t, Steps p.tables e below (T10.setTop (mkF m 46 #[.val (.int p1), .val (.int (1 : Int32)), .val (.ref a_WARNING), .val (.int (1 : Int32))] [(.int (1 : Int32))])) t → Steps p.tables e below (s₁.setTop (entryFrame m #[(.int p1)] maxLocals)) t := fun t k => pre1 t (by
      show Steps p.tables e below (s₁.setTop (mkF m 7 #[.val (.int p1), .unset, .unset, .unset] [(.int (1 : Int32))])) _
      refine XS.istoreN X0.here hx rfl (hb hby at_7) rfl (l' := #[.val (.int p1), .val (.int (1 : Int32)), .unset, .unset]) rfl ?_
      show Steps p.tables e below (s₁.setTop (mkF m 8 #[.val (.int p1), .val (.int (1 : Int32)), .unset, .unset] [])) _
      refine XS.iloadN X0.here hx rfl (hb hby at_8) rfl ?_
      show Steps p.tables e below (s₁.setTop (mkF m 9 #[.val (.int p1), .val (.int (1 : Int32)), .unset, .unset] [(.int (1 : Int32))])) _
      refine st7 _ ?_
      show Steps p.tables e below (T7.setTop (mkF m 12 #[.val (.int p1), .val (.int (1 : Int32)), .unset, .unset] [(.ref a_WARNING)])) _
      refine XS.astoreN X7.here hx rfl (hb hby at_12) rfl rfl (l' := #[.val (.int p1), .val (.int (1 : Int32)), .val (.ref a_WARNING), .unset]) rfl ?_
      show Steps p.tables e below (T7.setTop (mkF m 13 #[.val (.int p1), .val (.int (1 : Int32)), .val (.ref a_WARNING), .unset] [])) _
      refine XS.aloadN X7.here hx rfl (hb hby at_13) rfl rfl ?_
      show Steps p.tables e below (T7.setTop (mkF m 14 #[.val (.int p1), .val (.int (1 : Int32)), .val (.ref a_WARNING), .unset] [(.ref a_WARNING)])) _
      refine st8 _ ?_
      show Steps p.tables e below (T8.setTop (mkF m 17 #[.val (.int p1), .val (.int (1 : Int32)), .val (.ref a_WARNING), .unset] [(.ref a_MISSING), (.ref a_WARNING)])) _
      refine Jvm.RoadKit.acmp (g := (mkF m 17 #[.val (.int p1), .val (.int (1 : Int32)), .val (.ref a_WARNING), .unset] [(.ref a_MISSING), (.ref a_WARNING)])) X8 hx rfl rfl rfl (pc0 := 17) (pc' := 20) (same := false) rfl (hb hby at_17) rfl (decide_eq_false fun q => ((Fld.ne F_WARNING_ordinal F_MISSING_ordinal (by decide)) : ¬ (a_WARNING = a_MISSING)) (Value.ref.inj q)) (by decide) (by decide) ?_
      show Steps p.tables e below (T8.setTop (mkF m 20 #[.val (.int p1), .val (.int (1 : Int32)), .val (.ref a_WARNING), .unset] [])) _
      refine XS.aloadN X8.here hx rfl (hb hby at_20) rfl rfl ?_
      show Steps p.tables e below (T8.setTop (mkF m 21 #[.val (.int p1), .val (.int (1 : Int32)), .val (.ref a_WARNING), .unset] [(.ref a_WARNING)])) _
      refine st9 _ ?_
      show Steps p.tables e below (T9.setTop (mkF m 24 #[.val (.int p1), .val (.int (1 : Int32)), .val (.ref a_WARNING), .unset] [(.ref a_ABSENT), (.ref a_WARNING)])) _
      refine Jvm.RoadKit.acmp (g := (mkF m 24 #[.val (.int p1), .val (.int (1 : Int32)), .val (.ref a_WARNING), .unset] [(.ref a_ABSENT), (.ref a_WARNING)])) X9 hx rfl rfl rfl (pc0 := 24) (pc' := 27) (same := false) rfl (hb hby at_24) rfl (decide_eq_false fun q => ((Fld.ne F_WARNING_ordinal F_ABSENT_ordinal (by decide)) : ¬ (a_WARNING = a_ABSENT)) (Value.ref.inj q)) (by decide) (by decide) ?_
      show Steps p.tables e below (T9.setTop (mkF m 27 #[.val (.int p1), .val (.int (1 : Int32)), .val (.ref a_WARNING), .unset] [])) _
      refine XS.iconst X9.here hx rfl (hb hby at_27) ?_
      show Steps p.tables e below (T9.setTop (mkF m 28 #[.val (.int p1), .val (.int (1 : Int32)), .val (.ref a_WARNING), .unset] [(.int (1 : Int32))])) _
      refine XS.goto X9.here hx rfl (pc0 := 28) (pc' := 32) rfl (hb hby at_28) (by decide) (by decide) ?_
      show Steps p.tables e below (T9.setTop (mkF m 32 #[.val (.int p1), .val (.int (1 : Int32)), .val (.ref a_WARNING), .unset] [(.int (1 : Int32))])) _
      refine XS.istoreN X9.here hx rfl (hb hby at_32) rfl (l' := #[.val (.int p1), .val (.int (1 : Int32)), .val (.ref a_WARNING), .val (.int (1 : Int32))]) rfl ?_
      show Steps p.tables e below (T9.setTop (mkF m 33 #[.val (.int p1), .val (.int (1 : Int32)), .val (.ref a_WARNING), .val (.int (1 : Int32))] [])) _
      refine XS.aloadN X9.here hx rfl (hb hby at_33) rfl rfl ?_
      show Steps p.tables e below (T9.setTop (mkF m 34 #[.val (.int p1), .val (.int (1 : Int32)), .val (.ref a_WARNING), .val (.int (1 : Int32))] [(.ref a_WARNING)])) _
      refine st10.trans ?_
      show Steps p.tables e below (T10.setTop (mkF m 37 #[.val (.int p1), .val (.int (1 : Int32)), .val (.ref a_WARNING), .val (.int (1 : Int32))] [(.int (1 : Int32))])) _
      refine XS.iloadN X10.here hx rfl (hb hby at_37) rfl ?_
      show Steps p.tables e below (T10.setTop (mkF m 38 #[.val (.int p1), .val (.int (1 : Int32)), .val (.ref a_WARNING), .val (.int (1 : Int32))] [(.int (1 : Int32)), (.int (1 : Int32))])) _
      refine XS.icmpNo X10.here hx rfl (hb hby at_38) rfl (teq ((by decide) : (1 : Int32) = (1 : Int32))).2 ?_
      show Steps p.tables e below (T10.setTop (mkF m 41 #[.val (.int p1), .val (.int (1 : Int32)), .val (.ref a_WARNING), .val (.int (1 : Int32))] [])) _
      refine XS.iconst X10.here hx rfl (hb hby at_41) ?_
      show Steps p.tables e below (T10.setTop (mkF m 42 #[.val (.int p1), .val (.int (1 : Int32)), .val (.ref a_WARNING), .val (.int (1 : Int32))] [(.int (1 : Int32))])) _
      refine XS.goto X10.here hx rfl (pc0 := 42) (pc' := 46) rfl (hb hby at_42) (by decide) (by decide) ?_
      exact k)
    obtain ⟨fs, hr, hrun, hended, hW, hsame⟩ := X10.leave (v := some (.int (nar .boolean (1 : Int32)))) (fun h => by rw [Bd.returns] at h; cases h)
    refine ⟨_, _, pre11 _ ?_, hrun, hended, _, _, rfl, ?_, ⟨_, rfl⟩, hW, hsame.mono (by decide) (by decide)⟩
    · show Steps p.tables e below (T10.setTop (mkF m 46 #[.val (.int p1), .val (.int (1 : Int32)), .val (.ref a_WARNING), .val (.int (1 : Int32))] [(.int (1 : Int32))])) _
      exact retN X10 hx (t := .boolean) Bd.returns (by simp) (hb hby at_46) hr
    · show QL n0 _ T10.heap _
      rw [e10]
      exact ⟨rfl, N10⟩
  · subst hk
    obtain ⟨_, _, ⟨T12, L12, k12, n12⟩, -, X12, ⟨Lc12, hQ12, l12, y12, z12⟩, st12⟩ := Jvm.LawKit.callS X0 hx (y := (⟨"com/example/fapiao_lens/fapiaolens/StatusCarriesValuePinLaw", "pick", "(I)Lcom/example/fapiao_lens/fapiaolens/Status;"⟩ : MethodName)) hown (mvT hZ (hw _ (List.mem_of_getElem? (i := 1) rfl))) (mvT hZ (hw _ (List.mem_of_getElem? (i := 2) rfl))) (mvT hZ (hw _ (List.mem_of_getElem? (i := 3) rfl))) (mvT hZ (hw _ (List.mem_of_getElem? (i := 4) rfl))) (by decide) (backOf (W := 0) (rm1_2 l Z a0 hw []  a_CORRECT a_MISSING a_ABSENT a_WARNING a_INCORRECT a_CONFIRMED h0 n0 Z0 S_CORRECT E_CORRECT S_MISSING E_MISSING S_ABSENT E_ABSENT S_WARNING E_WARNING S_INCORRECT E_INCORRECT S_CONFIRMED E_CONFIRMED F_CORRECT_ordinal F_MISSING_ordinal F_ABSENT_ordinal F_WARNING_ordinal F_INCORRECT_ordinal F_CONFIRMED_ordinal) hZ (hw _ (List.mem_of_getElem? (i := 4) rfl)) (hw _ (List.mem_of_getElem? (i := 3) rfl)) (by decide) (by decide)) (g := (mkF m 9 #[.val (.int p1), .val (.int (2 : Int32)), .unset, .unset] [(.int (2 : Int32))])) rfl (by rw [hml]; rfl) (argsL := [(.int (2 : Int32))]) (rest := []) (lenOf own_pd0 rfl) rfl (by show 2 * 0 + _ ≤ _; exact Nat.le_of_eq rfl) (hb hby at_9) (fun _ _ => ⟨rfl, e0, (by decide : 0 + 0 ≤ _), (by decide : 0 + 0 ≤ _)⟩)
    dsimp only [Pt.U, Pt.locs, Pt.cells, Pt.slots] at X12 l12 y12 z12 st12 hQ12
    subst l12 y12 z12
    obtain ⟨rfl, N12q, e12⟩ := hQ12
    have N12 := Fr.app N0 N12q
    obtain ⟨T13, X13, e13, st13⟩ := getS2 X12 hx hZ hown (host := "") (Or.inl (hw _ (List.mem_of_getElem? (i := 8) rfl))) Via.refl e12 S_MISSING (g := (mkF m 14 #[.val (.int p1), .val (.int (2 : Int32)), .val (.ref a_INCORRECT), .unset] [(.ref a_INCORRECT)])) rfl (hb hby at_14)
    obtain ⟨T14, X14, e14, st14⟩ := getS2 X13 hx hZ hown (host := "") (Or.inl (hw _ (List.mem_of_getElem? (i := 10) rfl))) Via.refl e13 S_ABSENT (g := (mkF m 21 #[.val (.int p1), .val (.int (2 : Int32)), .val (.ref a_INCORRECT), .unset] [(.ref a_INCORRECT)])) rfl (hb hby at_21)
    obtain ⟨cq15, kq15, q15a, q15b, q15c⟩ := isOf hZ e14 E_INCORRECT
    obtain ⟨_, _, ⟨T15, L15, k15, n15⟩, -, X15, ⟨Lc15, hQ15, l15, y15, z15⟩, st15⟩ := X14.virtualBack hx (y := (⟨"com/example/fapiao_lens/fapiaolens/Status", "carriesValue", "()Z"⟩ : MethodName)) (z := (⟨"com/example/fapiao_lens/fapiaolens/Status", "carriesValue", "()Z"⟩ : MethodName)) hown (mvT hZ (hw _ (List.mem_of_getElem? (i := 12) rfl))) (mvT hZ (hw _ (List.mem_of_getElem? (i := 13) rfl))) (notFace_of_selects (args := #[]) (mvT hZ (hw _ (List.mem_of_getElem? (i := 15) rfl)))) (mvT hZ (hw _ (List.mem_of_getElem? (i := 15) rfl))) (mvT hZ (hw _ (List.mem_of_getElem? (i := 14) rfl))) (by decide) (backOf (W := 0) (rm2_2 l Z a0 hw []  a_CORRECT a_MISSING a_ABSENT a_WARNING a_INCORRECT a_CONFIRMED h0 n0 Z0 S_CORRECT E_CORRECT S_MISSING E_MISSING S_ABSENT E_ABSENT S_WARNING E_WARNING S_INCORRECT E_INCORRECT S_CONFIRMED E_CONFIRMED F_CORRECT_ordinal F_MISSING_ordinal F_ABSENT_ordinal F_WARNING_ordinal F_INCORRECT_ordinal F_CONFIRMED_ordinal) hZ (hw _ (List.mem_of_getElem? (i := 16) rfl)) (hw _ (List.mem_of_getElem? (i := 6) rfl)) (by decide) (by decide)) q15a q15c (g := (mkF m 34 #[.val (.int p1), .val (.int (2 : Int32)), .val (.ref a_INCORRECT), .val (.int (1 : Int32))] [(.ref a_INCORRECT)])) rfl (by rw [hml]; rfl) (Steps.refl _) (argsL := []) (rest := []) (lenOf own_pd1 rfl) rfl (by show 2 * 0 + _ ≤ _; exact Nat.le_of_eq rfl) (hb hby at_34) (fun _ _ => ⟨rfl, e14, (by decide : 0 + 0 ≤ _), (by decide : 0 + 0 ≤ _)⟩)
    dsimp only [Pt.U, Pt.locs, Pt.cells, Pt.slots] at X15 l15 y15 z15 st15 hQ15
    subst l15 y15 z15
    obtain ⟨rfl, N15q, e15⟩ := hQ15
    have N15 := Fr.app N12 N15q
    have pre16 : ∀ t, Steps p.tables e below (T15.setTop (mkF m 46 #[.val (.int p1), .val (.int (2 : Int32)), .val (.ref a_INCORRECT), .val (.int (1 : Int32))] [(.int (1 : Int32))])) t → Steps p.tables e below (s₁.setTop (entryFrame m #[(.int p1)] maxLocals)) t := fun t k => pre1 t (by
      show Steps p.tables e below (s₁.setTop (mkF m 7 #[.val (.int p1), .unset, .unset, .unset] [(.int (2 : Int32))])) _
      refine XS.istoreN X0.here hx rfl (hb hby at_7) rfl (l' := #[.val (.int p1), .val (.int (2 : Int32)), .unset, .unset]) rfl ?_
      show Steps p.tables e below (s₁.setTop (mkF m 8 #[.val (.int p1), .val (.int (2 : Int32)), .unset, .unset] [])) _
      refine XS.iloadN X0.here hx rfl (hb hby at_8) rfl ?_
      show Steps p.tables e below (s₁.setTop (mkF m 9 #[.val (.int p1), .val (.int (2 : Int32)), .unset, .unset] [(.int (2 : Int32))])) _
      refine st12 _ ?_
      show Steps p.tables e below (T12.setTop (mkF m 12 #[.val (.int p1), .val (.int (2 : Int32)), .unset, .unset] [(.ref a_INCORRECT)])) _
      refine XS.astoreN X12.here hx rfl (hb hby at_12) rfl rfl (l' := #[.val (.int p1), .val (.int (2 : Int32)), .val (.ref a_INCORRECT), .unset]) rfl ?_
      show Steps p.tables e below (T12.setTop (mkF m 13 #[.val (.int p1), .val (.int (2 : Int32)), .val (.ref a_INCORRECT), .unset] [])) _
      refine XS.aloadN X12.here hx rfl (hb hby at_13) rfl rfl ?_
      show Steps p.tables e below (T12.setTop (mkF m 14 #[.val (.int p1), .val (.int (2 : Int32)), .val (.ref a_INCORRECT), .unset] [(.ref a_INCORRECT)])) _
      refine st13 _ ?_
      show Steps p.tables e below (T13.setTop (mkF m 17 #[.val (.int p1), .val (.int (2 : Int32)), .val (.ref a_INCORRECT), .unset] [(.ref a_MISSING), (.ref a_INCORRECT)])) _
      refine Jvm.RoadKit.acmp (g := (mkF m 17 #[.val (.int p1), .val (.int (2 : Int32)), .val (.ref a_INCORRECT), .unset] [(.ref a_MISSING), (.ref a_INCORRECT)])) X13 hx rfl rfl rfl (pc0 := 17) (pc' := 20) (same := false) rfl (hb hby at_17) rfl (decide_eq_false fun q => ((Fld.ne F_INCORRECT_ordinal F_MISSING_ordinal (by decide)) : ¬ (a_INCORRECT = a_MISSING)) (Value.ref.inj q)) (by decide) (by decide) ?_
      show Steps p.tables e below (T13.setTop (mkF m 20 #[.val (.int p1), .val (.int (2 : Int32)), .val (.ref a_INCORRECT), .unset] [])) _
      refine XS.aloadN X13.here hx rfl (hb hby at_20) rfl rfl ?_
      show Steps p.tables e below (T13.setTop (mkF m 21 #[.val (.int p1), .val (.int (2 : Int32)), .val (.ref a_INCORRECT), .unset] [(.ref a_INCORRECT)])) _
      refine st14 _ ?_
      show Steps p.tables e below (T14.setTop (mkF m 24 #[.val (.int p1), .val (.int (2 : Int32)), .val (.ref a_INCORRECT), .unset] [(.ref a_ABSENT), (.ref a_INCORRECT)])) _
      refine Jvm.RoadKit.acmp (g := (mkF m 24 #[.val (.int p1), .val (.int (2 : Int32)), .val (.ref a_INCORRECT), .unset] [(.ref a_ABSENT), (.ref a_INCORRECT)])) X14 hx rfl rfl rfl (pc0 := 24) (pc' := 27) (same := false) rfl (hb hby at_24) rfl (decide_eq_false fun q => ((Fld.ne F_INCORRECT_ordinal F_ABSENT_ordinal (by decide)) : ¬ (a_INCORRECT = a_ABSENT)) (Value.ref.inj q)) (by decide) (by decide) ?_
      show Steps p.tables e below (T14.setTop (mkF m 27 #[.val (.int p1), .val (.int (2 : Int32)), .val (.ref a_INCORRECT), .unset] [])) _
      refine XS.iconst X14.here hx rfl (hb hby at_27) ?_
      show Steps p.tables e below (T14.setTop (mkF m 28 #[.val (.int p1), .val (.int (2 : Int32)), .val (.ref a_INCORRECT), .unset] [(.int (1 : Int32))])) _
      refine XS.goto X14.here hx rfl (pc0 := 28) (pc' := 32) rfl (hb hby at_28) (by decide) (by decide) ?_
      show Steps p.tables e below (T14.setTop (mkF m 32 #[.val (.int p1), .val (.int (2 : Int32)), .val (.ref a_INCORRECT), .unset] [(.int (1 : Int32))])) _
      refine XS.istoreN X14.here hx rfl (hb hby at_32) rfl (l' := #[.val (.int p1), .val (.int (2 : Int32)), .val (.ref a_INCORRECT), .val (.int (1 : Int32))]) rfl ?_
      show Steps p.tables e below (T14.setTop (mkF m 33 #[.val (.int p1), .val (.int (2 : Int32)), .val (.ref a_INCORRECT), .val (.int (1 : Int32))] [])) _
      refine XS.aloadN X14.here hx rfl (hb hby at_33) rfl rfl ?_
      show Steps p.tables e below (T14.setTop (mkF m 34 #[.val (.int p1), .val (.int (2 : Int32)), .val (.ref a_INCORRECT), .val (.int (1 : Int32))] [(.ref a_INCORRECT)])) _
      refine st15.trans ?_
      show Steps p.tables e below (T15.setTop (mkF m 37 #[.val (.int p1), .val (.int (2 : Int32)), .val (.ref a_INCORRECT), .val (.int (1 : Int32))] [(.int (1 : Int32))])) _
      refine XS.iloadN X15.here hx rfl (hb hby at_37) rfl ?_
      show Steps p.tables e below (T15.setTop (mkF m 38 #[.val (.int p1), .val (.int (2 : Int32)), .val (.ref a_INCORRECT), .val (.int (1 : Int32))] [(.int (1 : Int32)), (.int (1 : Int32))])) _
      refine XS.icmpNo X15.here hx rfl (hb hby at_38) rfl (teq ((by decide) : (1 : Int32) = (1 : Int32))).2 ?_
      show Steps p.tables e below (T15.setTop (mkF m 41 #[.val (.int p1), .val (.int (2 : Int32)), .val (.ref a_INCORRECT), .val (.int (1 : Int32))] [])) _
      refine XS.iconst X15.here hx rfl (hb hby at_41) ?_
      show Steps p.tables e below (T15.setTop (mkF m 42 #[.val (.int p1), .val (.int (2 : Int32)), .val (.ref a_INCORRECT), .val (.int (1 : Int32))] [(.int (1 : Int32))])) _
      refine XS.goto X15.here hx rfl (pc0 := 42) (pc' := 46) rfl (hb hby at_42) (by decide) (by decide) ?_
      exact k)
    obtain ⟨fs, hr, hrun, hended, hW, hsame⟩ := X15.leave (v := some (.int (nar .boolean (1 : Int32)))) (fun h => by rw [Bd.returns] at h; cases h)
    refine ⟨_, _, pre16 _ ?_, hrun, hended, _, _, rfl, ?_, ⟨_, rfl⟩, hW, hsame.mono (by decide) (by decide)⟩
    · show Steps p.tables e below (T15.setTop (mkF m 46 #[.val (.int p1), .val (.int (2 : Int32)), .val (.ref a_INCORRECT), .val (.int (1 : Int32))] [(.int (1 : Int32))])) _
      exact retN X15 hx (t := .boolean) Bd.returns (by simp) (hb hby at_46) hr
    · show QL n0 _ T15.heap _
      rw [e15]
      exact ⟨rfl, N15⟩
  · subst hk
    obtain ⟨_, _, ⟨T17, L17, k17, n17⟩, -, X17, ⟨Lc17, hQ17, l17, y17, z17⟩, st17⟩ := Jvm.LawKit.callS X0 hx (y := (⟨"com/example/fapiao_lens/fapiaolens/StatusCarriesValuePinLaw", "pick", "(I)Lcom/example/fapiao_lens/fapiaolens/Status;"⟩ : MethodName)) hown (mvT hZ (hw _ (List.mem_of_getElem? (i := 1) rfl))) (mvT hZ (hw _ (List.mem_of_getElem? (i := 2) rfl))) (mvT hZ (hw _ (List.mem_of_getElem? (i := 3) rfl))) (mvT hZ (hw _ (List.mem_of_getElem? (i := 4) rfl))) (by decide) (backOf (W := 0) (rm1_3 l Z a0 hw []  a_CORRECT a_MISSING a_ABSENT a_WARNING a_INCORRECT a_CONFIRMED h0 n0 Z0 S_CORRECT E_CORRECT S_MISSING E_MISSING S_ABSENT E_ABSENT S_WARNING E_WARNING S_INCORRECT E_INCORRECT S_CONFIRMED E_CONFIRMED F_CORRECT_ordinal F_MISSING_ordinal F_ABSENT_ordinal F_WARNING_ordinal F_INCORRECT_ordinal F_CONFIRMED_ordinal) hZ (hw _ (List.mem_of_getElem? (i := 4) rfl)) (hw _ (List.mem_of_getElem? (i := 3) rfl)) (by decide) (by decide)) (g := (mkF m 9 #[.val (.int p1), .val (.int (3 : Int32)), .unset, .unset] [(.int (3 : Int32))])) rfl (by rw [hml]; rfl) (argsL := [(.int (3 : Int32))]) (rest := []) (lenOf own_pd0 rfl) rfl (by show 2 * 0 + _ ≤ _; exact Nat.le_of_eq rfl) (hb hby at_9) (fun _ _ => ⟨rfl, e0, (by decide : 0 + 0 ≤ _), (by decide : 0 + 0 ≤ _)⟩)
    dsimp only [Pt.U, Pt.locs, Pt.cells, Pt.slots] at X17 l17 y17 z17 st17 hQ17
    subst l17 y17 z17
    obtain ⟨rfl, N17q, e17⟩ := hQ17
    have N17 := Fr.app N0 N17q
    obtain ⟨T18, X18, e18, st18⟩ := getS2 X17 hx hZ hown (host := "") (Or.inl (hw _ (List.mem_of_getElem? (i := 8) rfl))) Via.refl e17 S_MISSING (g := (mkF m 14 #[.val (.int p1), .val (.int (3 : Int32)), .val (.ref a_MISSING), .unset] [(.ref a_MISSING)])) rfl (hb hby at_14)
    obtain ⟨cq19, kq19, q19a, q19b, q19c⟩ := isOf hZ e18 E_MISSING
    obtain ⟨_, _, ⟨T19, L19, k19, n19⟩, -, X19, ⟨Lc19, hQ19, l19, y19, z19⟩, st19⟩ := X18.virtualBack hx (y := (⟨"com/example/fapiao_lens/fapiaolens/Status", "carriesValue", "()Z"⟩ : MethodName)) (z := (⟨"com/example/fapiao_lens/fapiaolens/Status", "carriesValue", "()Z"⟩ : MethodName)) hown (mvT hZ (hw _ (List.mem_of_getElem? (i := 12) rfl))) (mvT hZ (hw _ (List.mem_of_getElem? (i := 13) rfl))) (notFace_of_selects (args := #[]) (mvT hZ (hw _ (List.mem_of_getElem? (i := 15) rfl)))) (mvT hZ (hw _ (List.mem_of_getElem? (i := 15) rfl))) (mvT hZ (hw _ (List.mem_of_getElem? (i := 14) rfl))) (by decide) (backOf (W := 0) (rm2_3 l Z a0 hw []  a_CORRECT a_MISSING a_ABSENT a_WARNING a_INCORRECT a_CONFIRMED h0 n0 Z0 S_CORRECT E_CORRECT S_MISSING E_MISSING S_ABSENT E_ABSENT S_WARNING E_WARNING S_INCORRECT E_INCORRECT S_CONFIRMED E_CONFIRMED F_CORRECT_ordinal F_MISSING_ordinal F_ABSENT_ordinal F_WARNING_ordinal F_INCORRECT_ordinal F_CONFIRMED_ordinal) hZ (hw _ (List.mem_of_getElem? (i := 16) rfl)) (hw _ (List.mem_of_getElem? (i := 6) rfl)) (by decide) (by decide)) q19a q19c (g := (mkF m 34 #[.val (.int p1), .val (.int (3 : Int32)), .val (.ref a_MISSING), .val (.int (0 : Int32))] [(.ref a_MISSING)])) rfl (by rw [hml]; rfl) (Steps.refl _) (argsL := []) (rest := []) (lenOf own_pd1 rfl) rfl (by show 2 * 0 + _ ≤ _; exact Nat.le_of_eq rfl) (hb hby at_34) (fun _ _ => ⟨rfl, e18, (by decide : 0 + 0 ≤ _), (by decide : 0 + 0 ≤ _)⟩)
    dsimp only [Pt.U, Pt.locs, Pt.cells, Pt.slots] at X19 l19 y19 z19 st19 hQ19
    subst l19 y19 z19
    obtain ⟨rfl, N19q, e19⟩ := hQ19
    have N19 := Fr.app N17 N19q
    have pre20 : ∀ t, Steps p.tables e below (T19.setTop (mkF m 46 #[.val (.int p1), .val (.int (3 : Int32)), .val (.ref a_MISSING), .val (.int (0 : Int32))] [(.int (1 : Int32))])) t → Steps p.tables e below (s₁.setTop (entryFrame m #[(.int p1)] maxLocals)) t := fun t k => pre1 t (by
      show Steps p.tables e below (s₁.setTop (mkF m 7 #[.val (.int p1), .unset, .unset, .unset] [(.int (3 : Int32))])) _
      refine XS.istoreN X0.here hx rfl (hb hby at_7) rfl (l' := #[.val (.int p1), .val (.int (3 : Int32)), .unset, .unset]) rfl ?_
      show Steps p.tables e below (s₁.setTop (mkF m 8 #[.val (.int p1), .val (.int (3 : Int32)), .unset, .unset] [])) _
      refine XS.iloadN X0.here hx rfl (hb hby at_8) rfl ?_
      show Steps p.tables e below (s₁.setTop (mkF m 9 #[.val (.int p1), .val (.int (3 : Int32)), .unset, .unset] [(.int (3 : Int32))])) _
      refine st17 _ ?_
      show Steps p.tables e below (T17.setTop (mkF m 12 #[.val (.int p1), .val (.int (3 : Int32)), .unset, .unset] [(.ref a_MISSING)])) _
      refine XS.astoreN X17.here hx rfl (hb hby at_12) rfl rfl (l' := #[.val (.int p1), .val (.int (3 : Int32)), .val (.ref a_MISSING), .unset]) rfl ?_
      show Steps p.tables e below (T17.setTop (mkF m 13 #[.val (.int p1), .val (.int (3 : Int32)), .val (.ref a_MISSING), .unset] [])) _
      refine XS.aloadN X17.here hx rfl (hb hby at_13) rfl rfl ?_
      show Steps p.tables e below (T17.setTop (mkF m 14 #[.val (.int p1), .val (.int (3 : Int32)), .val (.ref a_MISSING), .unset] [(.ref a_MISSING)])) _
      refine st18 _ ?_
      show Steps p.tables e below (T18.setTop (mkF m 17 #[.val (.int p1), .val (.int (3 : Int32)), .val (.ref a_MISSING), .unset] [(.ref a_MISSING), (.ref a_MISSING)])) _
      refine Jvm.RoadKit.acmp (g := (mkF m 17 #[.val (.int p1), .val (.int (3 : Int32)), .val (.ref a_MISSING), .unset] [(.ref a_MISSING), (.ref a_MISSING)])) X18 hx rfl rfl rfl (pc0 := 17) (pc' := 31) (same := true) rfl (hb hby at_17) rfl (decide_eq_true (rfl)) (by decide) (by decide) ?_
      show Steps p.tables e below (T18.setTop (mkF m 31 #[.val (.int p1), .val (.int (3 : Int32)), .val (.ref a_MISSING), .unset] [])) _
      refine XS.iconst X18.here hx rfl (hb hby at_31) ?_
      show Steps p.tables e below (T18.setTop (mkF m 32 #[.val (.int p1), .val (.int (3 : Int32)), .val (.ref a_MISSING), .unset] [(.int (0 : Int32))])) _
      refine XS.istoreN X18.here hx rfl (hb hby at_32) rfl (l' := #[.val (.int p1), .val (.int (3 : Int32)), .val (.ref a_MISSING), .val (.int (0 : Int32))]) rfl ?_
      show Steps p.tables e below (T18.setTop (mkF m 33 #[.val (.int p1), .val (.int (3 : Int32)), .val (.ref a_MISSING), .val (.int (0 : Int32))] [])) _
      refine XS.aloadN X18.here hx rfl (hb hby at_33) rfl rfl ?_
      show Steps p.tables e below (T18.setTop (mkF m 34 #[.val (.int p1), .val (.int (3 : Int32)), .val (.ref a_MISSING), .val (.int (0 : Int32))] [(.ref a_MISSING)])) _
      refine st19.trans ?_
      show Steps p.tables e below (T19.setTop (mkF m 37 #[.val (.int p1), .val (.int (3 : Int32)), .val (.ref a_MISSING), .val (.int (0 : Int32))] [(.int (0 : Int32))])) _
      refine XS.iloadN X19.here hx rfl (hb hby at_37) rfl ?_
      show Steps p.tables e below (T19.setTop (mkF m 38 #[.val (.int p1), .val (.int (3 : Int32)), .val (.ref a_MISSING), .val (.int (0 : Int32))] [(.int (0 : Int32)), (.int (0 : Int32))])) _
      refine XS.icmpNo X19.here hx rfl (hb hby at_38) rfl (teq ((by decide) : (0 : Int32) = (0 : Int32))).2 ?_
      show Steps p.tables e below (T19.setTop (mkF m 41 #[.val (.int p1), .val (.int (3 : Int32)), .val (.ref a_MISSING), .val (.int (0 : Int32))] [])) _
      refine XS.iconst X19.here hx rfl (hb hby at_41) ?_
      show Steps p.tables e below (T19.setTop (mkF m 42 #[.val (.int p1), .val (.int (3 : Int32)), .val (.ref a_MISSING), .val (.int (0 : Int32))] [(.int (1 : Int32))])) _
      refine XS.goto X19.here hx rfl (pc0 := 42) (pc' := 46) rfl (hb hby at_42) (by decide) (by decide) ?_
      exact k)
    obtain ⟨fs, hr, hrun, hended, hW, hsame⟩ := X19.leave (v := some (.int (nar .boolean (1 : Int32)))) (fun h => by rw [Bd.returns] at h; cases h)
    refine ⟨_, _, pre20 _ ?_, hrun, hended, _, _, rfl, ?_, ⟨_, rfl⟩, hW, hsame.mono (by decide) (by decide)⟩
    · show Steps p.tables e below (T19.setTop (mkF m 46 #[.val (.int p1), .val (.int (3 : Int32)), .val (.ref a_MISSING), .val (.int (0 : Int32))] [(.int (1 : Int32))])) _
      exact retN X19 hx (t := .boolean) Bd.returns (by simp) (hb hby at_46) hr
    · show QL n0 _ T19.heap _
      rw [e19]
      exact ⟨rfl, N19⟩
  · subst hk
    obtain ⟨_, _, ⟨T21, L21, k21, n21⟩, -, X21, ⟨Lc21, hQ21, l21, y21, z21⟩, st21⟩ := Jvm.LawKit.callS X0 hx (y := (⟨"com/example/fapiao_lens/fapiaolens/StatusCarriesValuePinLaw", "pick", "(I)Lcom/example/fapiao_lens/fapiaolens/Status;"⟩ : MethodName)) hown (mvT hZ (hw _ (List.mem_of_getElem? (i := 1) rfl))) (mvT hZ (hw _ (List.mem_of_getElem? (i := 2) rfl))) (mvT hZ (hw _ (List.mem_of_getElem? (i := 3) rfl))) (mvT hZ (hw _ (List.mem_of_getElem? (i := 4) rfl))) (by decide) (backOf (W := 0) (rm1_4 l Z a0 hw []  a_CORRECT a_MISSING a_ABSENT a_WARNING a_INCORRECT a_CONFIRMED h0 n0 Z0 S_CORRECT E_CORRECT S_MISSING E_MISSING S_ABSENT E_ABSENT S_WARNING E_WARNING S_INCORRECT E_INCORRECT S_CONFIRMED E_CONFIRMED F_CORRECT_ordinal F_MISSING_ordinal F_ABSENT_ordinal F_WARNING_ordinal F_INCORRECT_ordinal F_CONFIRMED_ordinal) hZ (hw _ (List.mem_of_getElem? (i := 4) rfl)) (hw _ (List.mem_of_getElem? (i := 3) rfl)) (by decide) (by decide)) (g := (mkF m 9 #[.val (.int p1), .val (.int (4 : Int32)), .unset, .unset] [(.int (4 : Int32))])) rfl (by rw [hml]; rfl) (argsL := [(.int (4 : Int32))]) (rest := []) (lenOf own_pd0 rfl) rfl (by show 2 * 0 + _ ≤ _; exact Nat.le_of_eq rfl) (hb hby at_9) (fun _ _ => ⟨rfl, e0, (by decide : 0 + 0 ≤ _), (by decide : 0 + 0 ≤ _)⟩)
    dsimp only [Pt.U, Pt.locs, Pt.cells, Pt.slots] at X21 l21 y21 z21 st21 hQ21
    subst l21 y21 z21
    obtain ⟨rfl, N21q, e21⟩ := hQ21
    have N21 := Fr.app N0 N21q
    obtain ⟨T22, X22, e22, st22⟩ := getS2 X21 hx hZ hown (host := "") (Or.inl (hw _ (List.mem_of_getElem? (i := 8) rfl))) Via.refl e21 S_MISSING (g := (mkF m 14 #[.val (.int p1), .val (.int (4 : Int32)), .val (.ref a_ABSENT), .unset] [(.ref a_ABSENT)])) rfl (hb hby at_14)
    obtain ⟨T23, X23, e23, st23⟩ := getS2 X22 hx hZ hown (host := "") (Or.inl (hw _ (List.mem_of_getElem? (i := 10) rfl))) Via.refl e22 S_ABSENT (g := (mkF m 21 #[.val (.int p1), .val (.int (4 : Int32)), .val (.ref a_ABSENT), .unset] [(.ref a_ABSENT)])) rfl (hb hby at_21)
    obtain ⟨cq24, kq24, q24a, q24b, q24c⟩ := isOf hZ e23 E_ABSENT
    obtain ⟨_, _, ⟨T24, L24, k24, n24⟩, -, X24, ⟨Lc24, hQ24, l24, y24, z24⟩, st24⟩ := X23.virtualBack hx (y := (⟨"com/example/fapiao_lens/fapiaolens/Status", "carriesValue", "()Z"⟩ : MethodName)) (z := (⟨"com/example/fapiao_lens/fapiaolens/Status", "carriesValue", "()Z"⟩ : MethodName)) hown (mvT hZ (hw _ (List.mem_of_getElem? (i := 12) rfl))) (mvT hZ (hw _ (List.mem_of_getElem? (i := 13) rfl))) (notFace_of_selects (args := #[]) (mvT hZ (hw _ (List.mem_of_getElem? (i := 15) rfl)))) (mvT hZ (hw _ (List.mem_of_getElem? (i := 15) rfl))) (mvT hZ (hw _ (List.mem_of_getElem? (i := 14) rfl))) (by decide) (backOf (W := 0) (rm2_4 l Z a0 hw []  a_CORRECT a_MISSING a_ABSENT a_WARNING a_INCORRECT a_CONFIRMED h0 n0 Z0 S_CORRECT E_CORRECT S_MISSING E_MISSING S_ABSENT E_ABSENT S_WARNING E_WARNING S_INCORRECT E_INCORRECT S_CONFIRMED E_CONFIRMED F_CORRECT_ordinal F_MISSING_ordinal F_ABSENT_ordinal F_WARNING_ordinal F_INCORRECT_ordinal F_CONFIRMED_ordinal) hZ (hw _ (List.mem_of_getElem? (i := 16) rfl)) (hw _ (List.mem_of_getElem? (i := 6) rfl)) (by decide) (by decide)) q24a q24c (g := (mkF m 34 #[.val (.int p1), .val (.int (4 : Int32)), .val (.ref a_ABSENT), .val (.int (0 : Int32))] [(.ref a_ABSENT)])) rfl (by rw [hml]; rfl) (Steps.refl _) (argsL := []) (rest := []) (lenOf own_pd1 rfl) rfl (by show 2 * 0 + _ ≤ _; exact Nat.le_of_eq rfl) (hb hby at_34) (fun _ _ => ⟨rfl, e23, (by decide : 0 + 0 ≤ _), (by decide : 0 + 0 ≤ _)⟩)
    dsimp only [Pt.U, Pt.locs, Pt.cells, Pt.slots] at X24 l24 y24 z24 st24 hQ24
    subst l24 y24 z24
    obtain ⟨rfl, N24q, e24⟩ := hQ24
    have N24 := Fr.app N21 N24q
    have pre25 : ∀ t, Steps p.tables e below (T24.setTop (mkF m 46 #[.val (.int p1), .val (.int (4 : Int32)), .val (.ref a_ABSENT), .val (.int (0 : Int32))] [(.int (1 : Int32))])) t → Steps p.tables e below (s₁.setTop (entryFrame m #[(.int p1)] maxLocals)) t := fun t k => pre1 t (by
      show Steps p.tables e below (s₁.setTop (mkF m 7 #[.val (.int p1), .unset, .unset, .unset] [(.int (4 : Int32))])) _
      refine XS.istoreN X0.here hx rfl (hb hby at_7) rfl (l' := #[.val (.int p1), .val (.int (4 : Int32)), .unset, .unset]) rfl ?_
      show Steps p.tables e below (s₁.setTop (mkF m 8 #[.val (.int p1), .val (.int (4 : Int32)), .unset, .unset] [])) _
      refine XS.iloadN X0.here hx rfl (hb hby at_8) rfl ?_
      show Steps p.tables e below (s₁.setTop (mkF m 9 #[.val (.int p1), .val (.int (4 : Int32)), .unset, .unset] [(.int (4 : Int32))])) _
      refine st21 _ ?_
      show Steps p.tables e below (T21.setTop (mkF m 12 #[.val (.int p1), .val (.int (4 : Int32)), .unset, .unset] [(.ref a_ABSENT)])) _
      refine XS.astoreN X21.here hx rfl (hb hby at_12) rfl rfl (l' := #[.val (.int p1), .val (.int (4 : Int32)), .val (.ref a_ABSENT), .unset]) rfl ?_
      show Steps p.tables e below (T21.setTop (mkF m 13 #[.val (.int p1), .val (.int (4 : Int32)), .val (.ref a_ABSENT), .unset] [])) _
      refine XS.aloadN X21.here hx rfl (hb hby at_13) rfl rfl ?_
      show Steps p.tables e below (T21.setTop (mkF m 14 #[.val (.int p1), .val (.int (4 : Int32)), .val (.ref a_ABSENT), .unset] [(.ref a_ABSENT)])) _
      refine st22 _ ?_
      show Steps p.tables e below (T22.setTop (mkF m 17 #[.val (.int p1), .val (.int (4 : Int32)), .val (.ref a_ABSENT), .unset] [(.ref a_MISSING), (.ref a_ABSENT)])) _
      refine Jvm.RoadKit.acmp (g := (mkF m 17 #[.val (.int p1), .val (.int (4 : Int32)), .val (.ref a_ABSENT), .unset] [(.ref a_MISSING), (.ref a_ABSENT)])) X22 hx rfl rfl rfl (pc0 := 17) (pc' := 20) (same := false) rfl (hb hby at_17) rfl (decide_eq_false fun q => ((Fld.ne F_ABSENT_ordinal F_MISSING_ordinal (by decide)) : ¬ (a_ABSENT = a_MISSING)) (Value.ref.inj q)) (by decide) (by decide) ?_
      show Steps p.tables e below (T22.setTop (mkF m 20 #[.val (.int p1), .val (.int (4 : Int32)), .val (.ref a_ABSENT), .unset] [])) _
      refine XS.aloadN X22.here hx rfl (hb hby at_20) rfl rfl ?_
      show Steps p.tables e below (T22.setTop (mkF m 21 #[.val (.int p1), .val (.int (4 : Int32)), .val (.ref a_ABSENT), .unset] [(.ref a_ABSENT)])) _
      refine st23 _ ?_
      show Steps p.tables e below (T23.setTop (mkF m 24 #[.val (.int p1), .val (.int (4 : Int32)), .val (.ref a_ABSENT), .unset] [(.ref a_ABSENT), (.ref a_ABSENT)])) _
      refine Jvm.RoadKit.acmp (g := (mkF m 24 #[.val (.int p1), .val (.int (4 : Int32)), .val (.ref a_ABSENT), .unset] [(.ref a_ABSENT), (.ref a_ABSENT)])) X23 hx rfl rfl rfl (pc0 := 24) (pc' := 31) (same := true) rfl (hb hby at_24) rfl (decide_eq_true (rfl)) (by decide) (by decide) ?_
      show Steps p.tables e below (T23.setTop (mkF m 31 #[.val (.int p1), .val (.int (4 : Int32)), .val (.ref a_ABSENT), .unset] [])) _
      refine XS.iconst X23.here hx rfl (hb hby at_31) ?_
      show Steps p.tables e below (T23.setTop (mkF m 32 #[.val (.int p1), .val (.int (4 : Int32)), .val (.ref a_ABSENT), .unset] [(.int (0 : Int32))])) _
      refine XS.istoreN X23.here hx rfl (hb hby at_32) rfl (l' := #[.val (.int p1), .val (.int (4 : Int32)), .val (.ref a_ABSENT), .val (.int (0 : Int32))]) rfl ?_
      show Steps p.tables e below (T23.setTop (mkF m 33 #[.val (.int p1), .val (.int (4 : Int32)), .val (.ref a_ABSENT), .val (.int (0 : Int32))] [])) _
      refine XS.aloadN X23.here hx rfl (hb hby at_33) rfl rfl ?_
      show Steps p.tables e below (T23.setTop (mkF m 34 #[.val (.int p1), .val (.int (4 : Int32)), .val (.ref a_ABSENT), .val (.int (0 : Int32))] [(.ref a_ABSENT)])) _
      refine st24.trans ?_
      show Steps p.tables e below (T24.setTop (mkF m 37 #[.val (.int p1), .val (.int (4 : Int32)), .val (.ref a_ABSENT), .val (.int (0 : Int32))] [(.int (0 : Int32))])) _
      refine XS.iloadN X24.here hx rfl (hb hby at_37) rfl ?_
      show Steps p.tables e below (T24.setTop (mkF m 38 #[.val (.int p1), .val (.int (4 : Int32)), .val (.ref a_ABSENT), .val (.int (0 : Int32))] [(.int (0 : Int32)), (.int (0 : Int32))])) _
      refine XS.icmpNo X24.here hx rfl (hb hby at_38) rfl (teq ((by decide) : (0 : Int32) = (0 : Int32))).2 ?_
      show Steps p.tables e below (T24.setTop (mkF m 41 #[.val (.int p1), .val (.int (4 : Int32)), .val (.ref a_ABSENT), .val (.int (0 : Int32))] [])) _
      refine XS.iconst X24.here hx rfl (hb hby at_41) ?_
      show Steps p.tables e below (T24.setTop (mkF m 42 #[.val (.int p1), .val (.int (4 : Int32)), .val (.ref a_ABSENT), .val (.int (0 : Int32))] [(.int (1 : Int32))])) _
      refine XS.goto X24.here hx rfl (pc0 := 42) (pc' := 46) rfl (hb hby at_42) (by decide) (by decide) ?_
      exact k)
    obtain ⟨fs, hr, hrun, hended, hW, hsame⟩ := X24.leave (v := some (.int (nar .boolean (1 : Int32)))) (fun h => by rw [Bd.returns] at h; cases h)
    refine ⟨_, _, pre25 _ ?_, hrun, hended, _, _, rfl, ?_, ⟨_, rfl⟩, hW, hsame.mono (by decide) (by decide)⟩
    · show Steps p.tables e below (T24.setTop (mkF m 46 #[.val (.int p1), .val (.int (4 : Int32)), .val (.ref a_ABSENT), .val (.int (0 : Int32))] [(.int (1 : Int32))])) _
      exact retN X24 hx (t := .boolean) Bd.returns (by simp) (hb hby at_46) hr
    · show QL n0 _ T24.heap _
      rw [e24]
      exact ⟨rfl, N24⟩
  · subst hk
    obtain ⟨_, _, ⟨T26, L26, k26, n26⟩, -, X26, ⟨Lc26, hQ26, l26, y26, z26⟩, st26⟩ := Jvm.LawKit.callS X0 hx (y := (⟨"com/example/fapiao_lens/fapiaolens/StatusCarriesValuePinLaw", "pick", "(I)Lcom/example/fapiao_lens/fapiaolens/Status;"⟩ : MethodName)) hown (mvT hZ (hw _ (List.mem_of_getElem? (i := 1) rfl))) (mvT hZ (hw _ (List.mem_of_getElem? (i := 2) rfl))) (mvT hZ (hw _ (List.mem_of_getElem? (i := 3) rfl))) (mvT hZ (hw _ (List.mem_of_getElem? (i := 4) rfl))) (by decide) (backOf (W := 0) (rm1_5 l Z a0 hw []  a_CORRECT a_MISSING a_ABSENT a_WARNING a_INCORRECT a_CONFIRMED h0 n0 Z0 S_CORRECT E_CORRECT S_MISSING E_MISSING S_ABSENT E_ABSENT S_WARNING E_WARNING S_INCORRECT E_INCORRECT S_CONFIRMED E_CONFIRMED F_CORRECT_ordinal F_MISSING_ordinal F_ABSENT_ordinal F_WARNING_ordinal F_INCORRECT_ordinal F_CONFIRMED_ordinal) hZ (hw _ (List.mem_of_getElem? (i := 4) rfl)) (hw _ (List.mem_of_getElem? (i := 3) rfl)) (by decide) (by decide)) (g := (mkF m 9 #[.val (.int p1), .val (.int (5 : Int32)), .unset, .unset] [(.int (5 : Int32))])) rfl (by rw [hml]; rfl) (argsL := [(.int (5 : Int32))]) (rest := []) (lenOf own_pd0 rfl) rfl (by show 2 * 0 + _ ≤ _; exact Nat.le_of_eq rfl) (hb hby at_9) (fun _ _ => ⟨rfl, e0, (by decide : 0 + 0 ≤ _), (by decide : 0 + 0 ≤ _)⟩)
    dsimp only [Pt.U, Pt.locs, Pt.cells, Pt.slots] at X26 l26 y26 z26 st26 hQ26
    subst l26 y26 z26
    obtain ⟨rfl, N26q, e26⟩ := hQ26
    have N26 := Fr.app N0 N26q
    obtain ⟨T27, X27, e27, st27⟩ := getS2 X26 hx hZ hown (host := "") (Or.inl (hw _ (List.mem_of_getElem? (i := 8) rfl))) Via.refl e26 S_MISSING (g := (mkF m 14 #[.val (.int p1), .val (.int (5 : Int32)), .val (.ref a_CONFIRMED), .unset] [(.ref a_CONFIRMED)])) rfl (hb hby at_14)
    obtain ⟨T28, X28, e28, st28⟩ := getS2 X27 hx hZ hown (host := "") (Or.inl (hw _ (List.mem_of_getElem? (i := 10) rfl))) Via.refl e27 S_ABSENT (g := (mkF m 21 #[.val (.int p1), .val (.int (5 : Int32)), .val (.ref a_CONFIRMED), .unset] [(.ref a_CONFIRMED)])) rfl (hb hby at_21)
    obtain ⟨cq29, kq29, q29a, q29b, q29c⟩ := isOf hZ e28 E_CONFIRMED
    obtain ⟨_, _, ⟨T29, L29, k29, n29⟩, -, X29, ⟨Lc29, hQ29, l29, y29, z29⟩, st29⟩ := X28.virtualBack hx (y := (⟨"com/example/fapiao_lens/fapiaolens/Status", "carriesValue", "()Z"⟩ : MethodName)) (z := (⟨"com/example/fapiao_lens/fapiaolens/Status", "carriesValue", "()Z"⟩ : MethodName)) hown (mvT hZ (hw _ (List.mem_of_getElem? (i := 12) rfl))) (mvT hZ (hw _ (List.mem_of_getElem? (i := 13) rfl))) (notFace_of_selects (args := #[]) (mvT hZ (hw _ (List.mem_of_getElem? (i := 15) rfl)))) (mvT hZ (hw _ (List.mem_of_getElem? (i := 15) rfl))) (mvT hZ (hw _ (List.mem_of_getElem? (i := 14) rfl))) (by decide) (backOf (W := 0) (rm2_5 l Z a0 hw []  a_CORRECT a_MISSING a_ABSENT a_WARNING a_INCORRECT a_CONFIRMED h0 n0 Z0 S_CORRECT E_CORRECT S_MISSING E_MISSING S_ABSENT E_ABSENT S_WARNING E_WARNING S_INCORRECT E_INCORRECT S_CONFIRMED E_CONFIRMED F_CORRECT_ordinal F_MISSING_ordinal F_ABSENT_ordinal F_WARNING_ordinal F_INCORRECT_ordinal F_CONFIRMED_ordinal) hZ (hw _ (List.mem_of_getElem? (i := 16) rfl)) (hw _ (List.mem_of_getElem? (i := 6) rfl)) (by decide) (by decide)) q29a q29c (g := (mkF m 34 #[.val (.int p1), .val (.int (5 : Int32)), .val (.ref a_CONFIRMED), .val (.int (1 : Int32))] [(.ref a_CONFIRMED)])) rfl (by rw [hml]; rfl) (Steps.refl _) (argsL := []) (rest := []) (lenOf own_pd1 rfl) rfl (by show 2 * 0 + _ ≤ _; exact Nat.le_of_eq rfl) (hb hby at_34) (fun _ _ => ⟨rfl, e28, (by decide : 0 + 0 ≤ _), (by decide : 0 + 0 ≤ _)⟩)
    dsimp only [Pt.U, Pt.locs, Pt.cells, Pt.slots] at X29 l29 y29 z29 st29 hQ29
    subst l29 y29 z29
    obtain ⟨rfl, N29q, e29⟩ := hQ29
    have N29 := Fr.app N26 N29q
    have pre30 : ∀ t, Steps p.tables e below (T29.setTop (mkF m 46 #[.val (.int p1), .val (.int (5 : Int32)), .val (.ref a_CONFIRMED), .val (.int (1 : Int32))] [(.int (1 : Int32))])) t → Steps p.tables e below (s₁.setTop (entryFrame m #[(.int p1)] maxLocals)) t := fun t k => pre1 t (by
      show Steps p.tables e below (s₁.setTop (mkF m 7 #[.val (.int p1), .unset, .unset, .unset] [(.int (5 : Int32))])) _
      refine XS.istoreN X0.here hx rfl (hb hby at_7) rfl (l' := #[.val (.int p1), .val (.int (5 : Int32)), .unset, .unset]) rfl ?_
      show Steps p.tables e below (s₁.setTop (mkF m 8 #[.val (.int p1), .val (.int (5 : Int32)), .unset, .unset] [])) _
      refine XS.iloadN X0.here hx rfl (hb hby at_8) rfl ?_
      show Steps p.tables e below (s₁.setTop (mkF m 9 #[.val (.int p1), .val (.int (5 : Int32)), .unset, .unset] [(.int (5 : Int32))])) _
      refine st26 _ ?_
      show Steps p.tables e below (T26.setTop (mkF m 12 #[.val (.int p1), .val (.int (5 : Int32)), .unset, .unset] [(.ref a_CONFIRMED)])) _
      refine XS.astoreN X26.here hx rfl (hb hby at_12) rfl rfl (l' := #[.val (.int p1), .val (.int (5 : Int32)), .val (.ref a_CONFIRMED), .unset]) rfl ?_
      show Steps p.tables e below (T26.setTop (mkF m 13 #[.val (.int p1), .val (.int (5 : Int32)), .val (.ref a_CONFIRMED), .unset] [])) _
      refine XS.aloadN X26.here hx rfl (hb hby at_13) rfl rfl ?_
      show Steps p.tables e below (T26.setTop (mkF m 14 #[.val (.int p1), .val (.int (5 : Int32)), .val (.ref a_CONFIRMED), .unset] [(.ref a_CONFIRMED)])) _
      refine st27 _ ?_
      show Steps p.tables e below (T27.setTop (mkF m 17 #[.val (.int p1), .val (.int (5 : Int32)), .val (.ref a_CONFIRMED), .unset] [(.ref a_MISSING), (.ref a_CONFIRMED)])) _
      refine Jvm.RoadKit.acmp (g := (mkF m 17 #[.val (.int p1), .val (.int (5 : Int32)), .val (.ref a_CONFIRMED), .unset] [(.ref a_MISSING), (.ref a_CONFIRMED)])) X27 hx rfl rfl rfl (pc0 := 17) (pc' := 20) (same := false) rfl (hb hby at_17) rfl (decide_eq_false fun q => ((Fld.ne F_CONFIRMED_ordinal F_MISSING_ordinal (by decide)) : ¬ (a_CONFIRMED = a_MISSING)) (Value.ref.inj q)) (by decide) (by decide) ?_
      show Steps p.tables e below (T27.setTop (mkF m 20 #[.val (.int p1), .val (.int (5 : Int32)), .val (.ref a_CONFIRMED), .unset] [])) _
      refine XS.aloadN X27.here hx rfl (hb hby at_20) rfl rfl ?_
      show Steps p.tables e below (T27.setTop (mkF m 21 #[.val (.int p1), .val (.int (5 : Int32)), .val (.ref a_CONFIRMED), .unset] [(.ref a_CONFIRMED)])) _
      refine st28 _ ?_
      show Steps p.tables e below (T28.setTop (mkF m 24 #[.val (.int p1), .val (.int (5 : Int32)), .val (.ref a_CONFIRMED), .unset] [(.ref a_ABSENT), (.ref a_CONFIRMED)])) _
      refine Jvm.RoadKit.acmp (g := (mkF m 24 #[.val (.int p1), .val (.int (5 : Int32)), .val (.ref a_CONFIRMED), .unset] [(.ref a_ABSENT), (.ref a_CONFIRMED)])) X28 hx rfl rfl rfl (pc0 := 24) (pc' := 27) (same := false) rfl (hb hby at_24) rfl (decide_eq_false fun q => ((Fld.ne F_CONFIRMED_ordinal F_ABSENT_ordinal (by decide)) : ¬ (a_CONFIRMED = a_ABSENT)) (Value.ref.inj q)) (by decide) (by decide) ?_
      show Steps p.tables e below (T28.setTop (mkF m 27 #[.val (.int p1), .val (.int (5 : Int32)), .val (.ref a_CONFIRMED), .unset] [])) _
      refine XS.iconst X28.here hx rfl (hb hby at_27) ?_
      show Steps p.tables e below (T28.setTop (mkF m 28 #[.val (.int p1), .val (.int (5 : Int32)), .val (.ref a_CONFIRMED), .unset] [(.int (1 : Int32))])) _
      refine XS.goto X28.here hx rfl (pc0 := 28) (pc' := 32) rfl (hb hby at_28) (by decide) (by decide) ?_
      show Steps p.tables e below (T28.setTop (mkF m 32 #[.val (.int p1), .val (.int (5 : Int32)), .val (.ref a_CONFIRMED), .unset] [(.int (1 : Int32))])) _
      refine XS.istoreN X28.here hx rfl (hb hby at_32) rfl (l' := #[.val (.int p1), .val (.int (5 : Int32)), .val (.ref a_CONFIRMED), .val (.int (1 : Int32))]) rfl ?_
      show Steps p.tables e below (T28.setTop (mkF m 33 #[.val (.int p1), .val (.int (5 : Int32)), .val (.ref a_CONFIRMED), .val (.int (1 : Int32))] [])) _
      refine XS.aloadN X28.here hx rfl (hb hby at_33) rfl rfl ?_
      show Steps p.tables e below (T28.setTop (mkF m 34 #[.val (.int p1), .val (.int (5 : Int32)), .val (.ref a_CONFIRMED), .val (.int (1 : Int32))] [(.ref a_CONFIRMED)])) _
      refine st29.trans ?_
      show Steps p.tables e below (T29.setTop (mkF m 37 #[.val (.int p1), .val (.int (5 : Int32)), .val (.ref a_CONFIRMED), .val (.int (1 : Int32))] [(.int (1 : Int32))])) _
      refine XS.iloadN X29.here hx rfl (hb hby at_37) rfl ?_
      show Steps p.tables e below (T29.setTop (mkF m 38 #[.val (.int p1), .val (.int (5 : Int32)), .val (.ref a_CONFIRMED), .val (.int (1 : Int32))] [(.int (1 : Int32)), (.int (1 : Int32))])) _
      refine XS.icmpNo X29.here hx rfl (hb hby at_38) rfl (teq ((by decide) : (1 : Int32) = (1 : Int32))).2 ?_
      show Steps p.tables e below (T29.setTop (mkF m 41 #[.val (.int p1), .val (.int (5 : Int32)), .val (.ref a_CONFIRMED), .val (.int (1 : Int32))] [])) _
      refine XS.iconst X29.here hx rfl (hb hby at_41) ?_
      show Steps p.tables e below (T29.setTop (mkF m 42 #[.val (.int p1), .val (.int (5 : Int32)), .val (.ref a_CONFIRMED), .val (.int (1 : Int32))] [(.int (1 : Int32))])) _
      refine XS.goto X29.here hx rfl (pc0 := 42) (pc' := 46) rfl (hb hby at_42) (by decide) (by decide) ?_
      exact k)
    obtain ⟨fs, hr, hrun, hended, hW, hsame⟩ := X29.leave (v := some (.int (nar .boolean (1 : Int32)))) (fun h => by rw [Bd.returns] at h; cases h)
    refine ⟨_, _, pre30 _ ?_, hrun, hended, _, _, rfl, ?_, ⟨_, rfl⟩, hW, hsame.mono (by decide) (by decide)⟩
    · show Steps p.tables e below (T29.setTop (mkF m 46 #[.val (.int p1), .val (.int (5 : Int32)), .val (.ref a_CONFIRMED), .val (.int (1 : Int32))] [(.int (1 : Int32))])) _
      exact retN X29 hx (t := .boolean) Bd.returns (by simp) (hb hby at_46) hr
    · show QL n0 _ T29.heap _
      rw [e29]
      exact ⟨rfl, N29⟩
set_option maxRecDepth 65536 in
set_option maxHeartbeats 40000000 in
theorem comes_1 {Post : Tables → Env → Array Value → State → Outcome → State → Prop} (hpost : ∀ tb e args s v u, (limb_1_1.after args s (.returned v) u = true ∧ limb_1_2.after args s (.returned v) u = true ∧ True) → FrameEnd s (.returned v) u (Jvm.fieldLocs frame_1_writes args s ++ Jvm.arrayLocs frame_1_arrays args s ++ Jvm.staticLocs frame_1_statics s) 0 0 → Post tb e args s (.returned v) u) :
    ArmFor flags0 classFile x code maxLocals ret World_1 tables_1 room_1 Calls_1 rest_1 Pre_1 Post := by
  intro l hfl _ _ p e ha hc hk s m args below hf hA hF happ hP
  obtain ⟨hcalls, hrest, hpre⟩ := hP
  obtain ⟨-, -, -, hnamed, -, -, -, hat⟩ := (Spec.applies_iff hf).mp happ
  obtain ⟨hg, hn⟩ := and_e (Cond.before_iff.mp (show (Jvm.Cond.and given_1 narrow_1).before args s = true from hpre))
  obtain ⟨gc, gr0⟩ := and_e hg
  have ga0 := gr0
  obtain ⟨w0, rfl⟩ : ∃ w0 : Value, args = #[w0] := by
    have hs : args.size = 1 := by simpa [Cond.value, given_1] using gc
    obtain ⟨L⟩ := args
    match L, hs with
    | [w0], _ => exact ⟨w0, rfl⟩
  have hw := fun d (hd : d ∈ tables_1) => atoms_spec (ws := Jvm.Cond.code x code maxLocals ret :: tables_1) hat d (List.mem_cons_of_mem _ hd)
  have hfit : Fit s := fun {y c} hc i hi => by
    obtain ⟨ha, rfl⟩ := Array.getElem?_eq_some_iff.mp hc
    have q := List.all_eq_true.mp ((Array.all_eq_true_iff_forall_mem.mp hF) _ (Array.getElem_mem ha)) i (List.mem_range.mpr hi)
    simpa [Array.getElem?_eq_getElem hi] using q
  obtain ⟨i0, ei0⟩ := is_v ga0
  obtain rfl : w0 = (.int i0) := Option.some.inj ei0
  obtain ⟨c0, r0⟩ := and_e hn
  obtain ⟨c1, r1⟩ := and_e r0
  obtain ⟨c2, r2⟩ := and_e r1
  obtain ⟨c3, r3⟩ := and_e r2
  obtain ⟨c4, r4⟩ := and_e r3
  obtain ⟨c5, r5⟩ := and_e r4
  obtain ⟨c6, r6⟩ := and_e r5
  obtain ⟨c7, r7⟩ := and_e r6
  obtain ⟨c8, r8⟩ := and_e r7
  obtain ⟨c9, r9⟩ := and_e r8
  obtain ⟨c10, r10⟩ := and_e r9
  have c11 := r10
  obtain ⟨a_CORRECT, ea_CORRECT⟩ := exa_v c0
  have S_CORRECT := Sta.start ea_CORRECT (Or.inr ⟨(hw _ (List.mem_of_getElem? (i := 6) rfl)), (hw _ (List.mem_of_getElem? (i := 7) rfl))⟩)
  have E_CORRECT := Exa.start ea_CORRECT c0
  obtain ⟨a_MISSING, ea_MISSING⟩ := exa_v c1
  have S_MISSING := Sta.start ea_MISSING (Or.inr ⟨(hw _ (List.mem_of_getElem? (i := 6) rfl)), (hw _ (List.mem_of_getElem? (i := 9) rfl))⟩)
  have E_MISSING := Exa.start ea_MISSING c1
  obtain ⟨a_ABSENT, ea_ABSENT⟩ := exa_v c4
  have S_ABSENT := Sta.start ea_ABSENT (Or.inr ⟨(hw _ (List.mem_of_getElem? (i := 6) rfl)), (hw _ (List.mem_of_getElem? (i := 11) rfl))⟩)
  have E_ABSENT := Exa.start ea_ABSENT c4
  obtain ⟨a_WARNING, ea_WARNING⟩ := exa_v c6
  have S_WARNING := Sta.start ea_WARNING (Or.inr ⟨(hw _ (List.mem_of_getElem? (i := 6) rfl)), (hw _ (List.mem_of_getElem? (i := 19) rfl))⟩)
  have E_WARNING := Exa.start ea_WARNING c6
  obtain ⟨a_INCORRECT, ea_INCORRECT⟩ := exa_v c8
  have S_INCORRECT := Sta.start ea_INCORRECT (Or.inr ⟨(hw _ (List.mem_of_getElem? (i := 6) rfl)), (hw _ (List.mem_of_getElem? (i := 21) rfl))⟩)
  have E_INCORRECT := Exa.start ea_INCORRECT c8
  obtain ⟨a_CONFIRMED, ea_CONFIRMED⟩ := exa_v c10
  have S_CONFIRMED := Sta.start ea_CONFIRMED (Or.inr ⟨(hw _ (List.mem_of_getElem? (i := 6) rfl)), (hw _ (List.mem_of_getElem? (i := 23) rfl))⟩)
  have E_CONFIRMED := Exa.start ea_CONFIRMED c10
  have F_CORRECT_ordinal := own_fldI ea_CORRECT c2
  have F_MISSING_ordinal := own_fldI ea_MISSING c3
  have F_ABSENT_ordinal := own_fldI ea_ABSENT c5
  have F_WARNING_ordinal := own_fldI ea_WARNING c7
  have F_INCORRECT_ordinal := own_fldI ea_INCORRECT c9
  have F_CONFIRMED_ordinal := own_fldI ea_CONFIRMED c11
  obtain ⟨n, o, h1, h2, h3, _, L, rfl, ⟨rfl, N⟩, hq⟩ := rm0 l s _ hw tables_1 i0 a_CORRECT a_MISSING a_ABSENT a_WARNING a_INCORRECT a_CONFIRMED s.heap s.heap.size (Nat.le_refl _) S_CORRECT E_CORRECT S_MISSING E_MISSING S_ABSENT E_ABSENT S_WARNING E_WARNING S_INCORRECT E_INCORRECT S_CONFIRMED E_CONFIRMED F_CORRECT_ordinal F_MISSING_ordinal F_ABSENT_ordinal F_WARNING_ordinal F_INCORRECT_ordinal F_CONFIRMED_ordinal p e ha hc hk s m _ below hf ((Spec.applies_iff_loose hf).mp happ).1 ⟨rfl, State.Warmed39.refl s, rfl⟩ trivial
  refine ⟨n, _, h1, h2, h3, hpost _ _ _ _ _ _ ⟨Cond.after_iff.mpr rfl, Cond.after_iff.mpr (eq_i res_at (Term.int_eval (1)) rfl), trivial⟩ ⟨hq.1, hq.2.1, (hq.2.2.sift fun y hy => Or.inr (N y hy)).mono (by decide) (by decide)⟩⟩
theorem main_1_1 : Claimed_1_1 := comes_1 fun _ _ _ _ _ _ h hF => ⟨h.1, hF⟩
theorem main_1_2 : Claimed_1_2 := comes_1 fun _ _ _ _ _ _ h hF => ⟨h.2.1, hF⟩
end Jvm.Pilot.@@N@@
namespace Jvm.Pilot.@@N@@
open Jvm Jvm.ClassFile Sem Op Lib Jvm.Free Jvm.Stand Jvm.Pilot.@@N@@.Jvm.D
/-! MADE BY PROGRAM (witnessworld.py) out of the Statement's table words and the real class files: 12 classes; the members and pool entries that the words name. The judged class is class 1, her method 2. -/
namespace start1
open Jvm.ClassFile
def u (s : String) : CpInfo := .utf8 (stringToUtf16 s)
/-- a pool by its gaps: so many unusable entries, then the entry; so many at the end -/
def gap : Nat → List CpInfo → List CpInfo
  | 0, r => r
  | n + 1, r => .unusable :: gap n r
def poolList (es : List (Nat × CpInfo)) (last : Nat) : List CpInfo := es.foldr (fun e r => gap e.1 (e.2 :: r)) (gap last [])
def pool (es : List (Nat × CpInfo)) (last : Nat) : Array CpInfo := ⟨poolList es last⟩
def fileOf (pool : Array CpInfo) (this : Nat) (attrs : Array Attribute := #[]) (ms : Array MethodInfo := #[]) (fl : Nat := 33) (sup : Nat := 0) (ifs : Array Nat := #[]) (fds : Array FieldInfo := #[]) : ClassFile where
  minorVersion := 0
  majorVersion := 65
  constantPool := pool
  accessFlags := fl
  thisClass := this
  superClass := sup
  interfaces := ifs
  fields := fds
  methods := ms
  attributes := attrs
def plain (name : String) (sup : Option ClassId) : Class where
  name := name
  kind := .ordinary
  loader := none
  accessFlags := 33
  super := sup
  interfaces := #[]
  cf := none
  fields := #[]
  methods := #[]
  instanceTypes := #[]
  staticTypes := #[]
  resolved := #[]
  callSites := []
  init := .initialized
  statics := none
  mirror := none

def pool0 : Array CpInfo := pool [(5, u "<init>"), (0, u "()V"), (1, .class_ 10), (1, u "java/lang/Object")] 113

def k0m0 : Method := { name := "<init>", desc := "()V", sig := { parameters := [], returnType := none }, accessFlags := 1, code := none }
/-- java/lang/Object -/
def k0 : Class := { plain "java/lang/Object" none with
  accessFlags := 33
  interfaces := #[]
  cf := some (fileOf pool0 8 #[] #[{ accessFlags := 1, nameIndex := 5, descriptorIndex := 6, attributes := #[] }] 33 0 #[] #[])
  fields := #[]
  methods := #[k0m0]
  instanceTypes := #[]
  staticTypes := #[]
  resolved := Array.replicate 124 none
  statics := none }

def pool1 : Array CpInfo := pool [(2, .class_ 4), (1, u "java/lang/Object"), (0, u "<init>"), (0, u "()V"), (0, .fieldref 8 9), (0, .class_ 10), (0, .nameAndType 11 12), (0, u "com/example/fapiao_lens/fapiaolens/Status"), (0, u "CORRECT"), (0, u "Lcom/example/fapiao_lens/fapiaolens/Status;"), (0, .fieldref 8 14), (0, .nameAndType 15 12), (0, u "WARNING"), (0, .fieldref 8 17), (0, .nameAndType 18 12), (0, u "INCORRECT"), (0, .fieldref 8 20), (0, .nameAndType 21 12), (0, u "MISSING"), (0, .fieldref 8 23), (0, .nameAndType 24 12), (0, u "ABSENT"), (0, .fieldref 8 26), (0, .nameAndType 27 12), (0, u "CONFIRMED"), (0, .integer 2147483647), (0, .methodref 30 31), (0, .class_ 32), (0, .nameAndType 33 34), (0, u "com/example/fapiao_lens/fapiaolens/StatusCarriesValuePinLaw"), (0, u "pick"), (0, u "(I)Lcom/example/fapiao_lens/fapiaolens/Status;"), (0, .methodref 8 36), (0, .nameAndType 37 38), (0, u "carriesValue"), (0, u "()Z"), (3, u "law"), (0, u "(I)Z")] 2

def k1m0 : Method := { name := "<init>", desc := "()V", sig := { parameters := [], returnType := none }, accessFlags := 2, code := none }
def k1c1 : Code := { maxStack := 2, maxLocals := 1, code := method_2_code, exceptionTable := #[], attributes := #[] }
def k1m1 : Method := { name := "pick", desc := "(I)Lcom/example/fapiao_lens/fapiaolens/Status;", sig := { parameters := [.int], returnType := some (.object "com/example/fapiao_lens/fapiaolens/Status") }, accessFlags := 10, code := some k1c1 }
def k1c2 : Code := { maxStack := 2, maxLocals := 4, code := code, exceptionTable := #[], attributes := #[] }
def k1m2 : Method := { name := "law", desc := "(I)Z", sig := { parameters := [.int], returnType := some .boolean }, accessFlags := 9, code := some k1c2 }
/-- com/example/fapiao_lens/fapiaolens/StatusCarriesValuePinLaw -/
def k1 : Class := { plain "com/example/fapiao_lens/fapiaolens/StatusCarriesValuePinLaw" (some 0) with
  accessFlags := 49
  interfaces := #[]
  cf := some (fileOf pool1 30 #[] #[{ accessFlags := 2, nameIndex := 5, descriptorIndex := 6, attributes := #[] }, { accessFlags := 10, nameIndex := 33, descriptorIndex := 34, attributes := #[] }, { accessFlags := 9, nameIndex := 42, descriptorIndex := 43, attributes := #[] }] 49 2 #[] #[])
  fields := #[]
  methods := #[k1m0, k1m1, k1m2]
  instanceTypes := #[]
  staticTypes := #[]
  resolved := Array.replicate 46 none
  statics := none }

def pool2 : Array CpInfo := pool [(1, .class_ 2), (0, u "java/lang/constant/Constable"), (0, .class_ 4), (0, u "java/lang/Object")] 6

/-- java/lang/constant/Constable -/
def k2 : Class := { plain "java/lang/constant/Constable" (some 0) with
  accessFlags := 1537
  interfaces := #[]
  cf := some (fileOf pool2 1 #[] #[] 1537 3 #[] #[])
  fields := #[]
  methods := #[]
  instanceTypes := #[]
  staticTypes := #[]
  resolved := Array.replicate 11 none
  statics := none }

def pool3 : Array CpInfo := pool [(1, .class_ 2), (0, u "java/lang/Comparable"), (0, .class_ 4), (0, u "java/lang/Object")] 7

/-- java/lang/Comparable -/
def k3 : Class := { plain "java/lang/Comparable" (some 0) with
  accessFlags := 1537
  interfaces := #[]
  cf := some (fileOf pool3 1 #[] #[] 1537 3 #[] #[])
  fields := #[]
  methods := #[]
  instanceTypes := #[]
  staticTypes := #[]
  resolved := Array.replicate 12 none
  statics := none }

def pool4 : Array CpInfo := pool [(1, .class_ 2), (0, u "java/io/Serializable"), (0, .class_ 4), (0, u "java/lang/Object")] 2

/-- java/io/Serializable -/
def k4 : Class := { plain "java/io/Serializable" (some 0) with
  accessFlags := 1537
  interfaces := #[]
  cf := some (fileOf pool4 1 #[] #[] 1537 3 #[] #[])
  fields := #[]
  methods := #[]
  instanceTypes := #[]
  staticTypes := #[]
  resolved := Array.replicate 7 none
  statics := none }

def pool5 : Array CpInfo := pool [(2, .class_ 4), (1, u "java/lang/Enum"), (0, u "name"), (0, u "Ljava/lang/String;"), (2, u "ordinal"), (0, u "I"), (1, .class_ 14), (1, u "java/lang/Object"), (4, u "hash"), (86, .class_ 108), (1, u "java/lang/Enum$EnumDesc"), (2, .class_ 112), (0, u "java/lang/constant/Constable"), (0, .class_ 114), (0, u "java/lang/Comparable"), (0, .class_ 116), (0, u "java/io/Serializable")] 87

/-- java/lang/Enum -/
def k5 : Class := { plain "java/lang/Enum" (some 0) with
  accessFlags := 1057
  interfaces := #[2, 3, 4]
  cf := some (fileOf pool5 2 #[.nestMembers #[106]] #[] 1057 12 #[111, 113, 115] #[{ accessFlags := 18, nameIndex := 5, descriptorIndex := 6, attributes := #[] }, { accessFlags := 18, nameIndex := 9, descriptorIndex := 10, attributes := #[] }, { accessFlags := 2, nameIndex := 19, descriptorIndex := 10, attributes := #[] }])
  fields := #[{ name := "name", type := (.object "java/lang/String"), accessFlags := 18, slot := 0, constantValue := 0 }, { name := "ordinal", type := .int, accessFlags := 18, slot := 1, constantValue := 0 }, { name := "hash", type := .int, accessFlags := 2, slot := 2, constantValue := 0 }]
  methods := #[]
  instanceTypes := #[(.object "java/lang/String"), .int, .int]
  staticTypes := #[]
  resolved := Array.replicate 204 none
  statics := none }

def pool6 : Array CpInfo := pool [(1, .class_ 2), (0, u "com/example/fapiao_lens/fapiaolens/Status"), (0, .fieldref 1 4), (0, .nameAndType 5 6), (0, u "CORRECT"), (0, u "Lcom/example/fapiao_lens/fapiaolens/Status;"), (0, .fieldref 1 8), (0, .nameAndType 9 6), (0, u "WARNING"), (0, .fieldref 1 11), (0, .nameAndType 12 6), (0, u "INCORRECT"), (2, u "MISSING"), (2, u "ABSENT"), (0, .fieldref 1 20), (0, .nameAndType 21 6), (0, u "CONFIRMED"), (2, u "$VALUES"), (0, u "[Lcom/example/fapiao_lens/fapiaolens/Status;"), (6, .class_ 34), (1, u "java/lang/Enum"), (60, u "carriesValue"), (0, u "()Z")] 20

def k6c0 : Code := { maxStack := 2, maxLocals := 1, code := prog_59_method_6_code, exceptionTable := #[], attributes := #[] }
def k6m0 : Method := { name := "carriesValue", desc := "()Z", sig := { parameters := [], returnType := some .boolean }, accessFlags := 1, code := some k6c0 }
/-- com/example/fapiao_lens/fapiaolens/Status -/
def k6 : Class := { plain "com/example/fapiao_lens/fapiaolens/Status" (some 5) with
  accessFlags := 16433
  interfaces := #[]
  cf := some (fileOf pool6 1 #[] #[{ accessFlags := 1, nameIndex := 95, descriptorIndex := 96, attributes := #[] }] 16433 32 #[] #[{ accessFlags := 16409, nameIndex := 5, descriptorIndex := 6, attributes := #[] }, { accessFlags := 16409, nameIndex := 9, descriptorIndex := 6, attributes := #[] }, { accessFlags := 16409, nameIndex := 12, descriptorIndex := 6, attributes := #[] }, { accessFlags := 16409, nameIndex := 15, descriptorIndex := 6, attributes := #[] }, { accessFlags := 16409, nameIndex := 18, descriptorIndex := 6, attributes := #[] }, { accessFlags := 16409, nameIndex := 21, descriptorIndex := 6, attributes := #[] }, { accessFlags := 4122, nameIndex := 24, descriptorIndex := 25, attributes := #[] }])
  fields := #[{ name := "CORRECT", type := (.object "com/example/fapiao_lens/fapiaolens/Status"), accessFlags := 16409, slot := 0, constantValue := 0 }, { name := "WARNING", type := (.object "com/example/fapiao_lens/fapiaolens/Status"), accessFlags := 16409, slot := 1, constantValue := 0 }, { name := "INCORRECT", type := (.object "com/example/fapiao_lens/fapiaolens/Status"), accessFlags := 16409, slot := 2, constantValue := 0 }, { name := "MISSING", type := (.object "com/example/fapiao_lens/fapiaolens/Status"), accessFlags := 16409, slot := 3, constantValue := 0 }, { name := "ABSENT", type := (.object "com/example/fapiao_lens/fapiaolens/Status"), accessFlags := 16409, slot := 4, constantValue := 0 }, { name := "CONFIRMED", type := (.object "com/example/fapiao_lens/fapiaolens/Status"), accessFlags := 16409, slot := 5, constantValue := 0 }, { name := "$VALUES", type := (.array (.object "com/example/fapiao_lens/fapiaolens/Status")), accessFlags := 4122, slot := 6, constantValue := 0 }]
  methods := #[k6m0]
  instanceTypes := #[(.object "java/lang/String"), .int, .int]
  staticTypes := #[(.object "com/example/fapiao_lens/fapiaolens/Status"), (.object "com/example/fapiao_lens/fapiaolens/Status"), (.object "com/example/fapiao_lens/fapiaolens/Status"), (.object "com/example/fapiao_lens/fapiaolens/Status"), (.object "com/example/fapiao_lens/fapiaolens/Status"), (.object "com/example/fapiao_lens/fapiaolens/Status"), (.array (.object "com/example/fapiao_lens/fapiaolens/Status"))]
  resolved := Array.replicate 117 none
  statics := some 0 }

def pool7 : Array CpInfo := pool [(1, u "java/lang/Cloneable"), (0, .class_ 1), (0, u "java/lang/Object"), (0, .class_ 3)] 3

/-- java/lang/Cloneable -/
def k7 : Class := { plain "java/lang/Cloneable" (some 0) with
  accessFlags := 1537
  interfaces := #[]
  cf := some (fileOf pool7 2 #[] #[] 1537 4 #[] #[])
  fields := #[]
  methods := #[]
  instanceTypes := #[]
  staticTypes := #[]
  resolved := Array.replicate 8 none
  statics := none }

/-- the primitive byte -/
def k8 : Class := { plain "byte" none with kind := .primitive 'B', accessFlags := 0x411 }
/-- [B -/
def k9 : Class := { plain "[B" (some 0) with kind := .array 8 .byte, interfaces := #[7, 4], accessFlags := 1041 }

/-- the primitive int -/
def k10 : Class := { plain "int" none with kind := .primitive 'I', accessFlags := 0x411 }
/-- [I -/
def k11 : Class := { plain "[I" (some 0) with kind := .array 10 .int, interfaces := #[7, 4], accessFlags := 1041 }

def heap : Heap := #[{ cls := 6, slots := #[.ref 1, .ref 4, .ref 5, .ref 2, .ref 3, .ref 6, .null], vm := .statics 6 },
  { cls := 6, slots := #[.null, .int 0, .int 0], vm := .none },
  { cls := 6, slots := #[.null, .int 3, .int 0], vm := .none },
  { cls := 6, slots := #[.null, .int 4, .int 0], vm := .none },
  { cls := 6, slots := #[.null, .int 1, .int 0], vm := .none },
  { cls := 6, slots := #[.null, .int 2, .int 0], vm := .none },
  { cls := 6, slots := #[.null, .int 5, .int 0], vm := .none }]
def classes : Array Class := #[k0, k1, k2, k3, k4, k5, k6, k7, k8, k9, k10, k11]
def interned : List (Array UInt16 × Addr) := []
def slotsUsed : Nat := 25
def theMethod : MethodId := ⟨1, 2⟩
def args0 : Array Value := #[.int 5]
def aboutOver (below : List Frame) : State where
  vm := { classes := classes, interned := interned.toArray }
  heap := heap
  slotsUsed := slotsUsed
  threads := #[{ frames := .invoking theMethod args0 :: below }]
def below0 : List Frame := [.native { method := ⟨0, 0⟩, args := #[] }]
def about1 : State := aboutOver below0
def p0 : Program := .bare "" "" ""
def e0 : Env := launch0.env 0 0 0
theorem w_frames : about1.frames = Frame.invoking theMethod args0 :: below0 := rfl
set_option maxRecDepth 65536 in
theorem w_args : argsFit about1.vm theMethod args0 = true := by decide +kernel
set_option maxRecDepth 65536 in
theorem w_heap : heapFits about1 = true := by decide +kernel
set_option maxRecDepth 65536 in
theorem w_runnable : about1.curStatus? = some .runnable := by decide +kernel
set_option maxRecDepth 65536 in
theorem w_alone : about1.alone = true := by decide +kernel
set_option maxRecDepth 65536 in
theorem w_named : about1.methodNamed? x = some theMethod := by decide +kernel
set_option maxRecDepth 65536 in
theorem w_hears : about1.hears theMethod below0 = true := by decide +kernel
set_option maxRecDepth 65536 in
theorem w_ripe : about1.ripe theMethod args0 below0 = true := by decide +kernel
theorem w_running : about1.status = .running := rfl
set_option maxRecDepth 65536 in
theorem w_room : about1.hasRoom e0.platform room_1 = true :=
  launch0.hasRoom_least _ room_1 (by decide +kernel) (by decide +kernel) (by decide +kernel) (by decide +kernel) (by decide +kernel) (by decide +kernel)
theorem allAtoms_all (ts : List Jvm.Cond) (a : Array Jvm.Value) (st : Jvm.State) : (allAtoms ts).before a st = ts.all (fun c => c.before a st) := by
  induction ts with
  | nil => rfl
  | cons c t ih =>
    show (Jvm.Cond.and c (allAtoms t)).before a st = _
    rw [Jvm.Cond.before_and, ih, List.all_cons]
def words1 : List Jvm.Cond := Jvm.Cond.code x code maxLocals ret :: tables_1
/-- a 'code' word, met by the world's own term for the bytes: nothing is compared byte by byte -/
theorem code_word {y : MethodName} {bytes : ByteArray} {mx : Nat} {rt : Option FieldType} {a : Array Value} {s : State} {m : MethodId} {meth : Method} {c : Code} (h1 : s.methodNamed? y = some m) (h2 : s.vm.method? m = some meth) (h3 : meth.code = some c) (h4 : c.code = bytes)
    (h5 : (c.maxLocals == mx && c.exceptionTable.isEmpty && decide (c.maxStack ≤ mostOperands) && decide (meth.sig.returnType = rt) && !meth.locks && decide (parseMethodDescriptor y.desc = some meth.sig)) = true) : (Jvm.Cond.code y bytes mx rt).before a s = true := by
  simp only [Bool.and_eq_true, beq_iff_eq, Bool.not_eq_true', decide_eq_true_eq] at h5
  obtain ⟨⟨⟨⟨⟨g1, g2⟩, g3⟩, g4⟩, g5⟩, g6⟩ := h5
  simp [Cond.before, Cond.holds, Cond.value, h1, h2, h3, h4, g1, g2, g3, g4, g5, g6]
def isCode : Jvm.Cond → Bool
  | .code _ _ _ _ => true
  | _ => false
theorem all_split {L : List Jvm.Cond} {P : Jvm.Cond → Bool} (h1 : L.all (fun c => isCode c || P c) = true) (h2 : ∀ c ∈ L.filter isCode, P c = true) : L.all P = true := by
  refine List.all_eq_true.mpr fun c hc => ?_
  have h := List.all_eq_true.mp h1 c hc
  rcases Bool.eq_false_or_eq_true (isCode c) with hi | hi
  · exact h2 c (List.mem_filter.mpr ⟨hc, hi⟩)
  · simpa [hi] using h
set_option maxRecDepth 65536 in
theorem w_c0 : (Jvm.Cond.code x code maxLocals ret).before args0 about1 = true := code_word (m := ⟨1, 2⟩) (meth := k1m2) (c := k1c2) (by decide +kernel) rfl rfl rfl (by decide +kernel)
set_option maxRecDepth 65536 in
theorem w_c1 : (Jvm.Cond.code ({ cls := "com/example/fapiao_lens/fapiaolens/StatusCarriesValuePinLaw", name := "pick", desc := "(I)Lcom/example/fapiao_lens/fapiaolens/Status;" } : Jvm.MethodName) method_2_code (1 : Nat) (Option.some (Jvm.ClassFile.FieldType.object "com/example/fapiao_lens/fapiaolens/Status"))).before args0 about1 = true := code_word (m := ⟨1, 1⟩) (meth := k1m1) (c := k1c1) (by decide +kernel) rfl rfl rfl (by decide +kernel)
set_option maxRecDepth 65536 in
theorem w_c2 : (Jvm.Cond.code ({ cls := "com/example/fapiao_lens/fapiaolens/Status", name := "carriesValue", desc := "()Z" } : Jvm.MethodName) prog_59_method_6_code (1 : Nat) (Option.some Jvm.ClassFile.FieldType.boolean)).before args0 about1 = true := code_word (m := ⟨6, 0⟩) (meth := k6m0) (c := k6c0) (by decide +kernel) rfl rfl rfl (by decide +kernel)
def codes1 : List Jvm.Cond := [Jvm.Cond.code x code maxLocals ret, Jvm.Cond.code ({ cls := "com/example/fapiao_lens/fapiaolens/StatusCarriesValuePinLaw", name := "pick", desc := "(I)Lcom/example/fapiao_lens/fapiaolens/Status;" } : Jvm.MethodName) method_2_code (1 : Nat) (Option.some (Jvm.ClassFile.FieldType.object "com/example/fapiao_lens/fapiaolens/Status")), Jvm.Cond.code ({ cls := "com/example/fapiao_lens/fapiaolens/Status", name := "carriesValue", desc := "()Z" } : Jvm.MethodName) prog_59_method_6_code (1 : Nat) (Option.some Jvm.ClassFile.FieldType.boolean)]
set_option maxRecDepth 65536 in
theorem codes_eq : words1.filter isCode = codes1 := rfl
theorem w_codes : ∀ c ∈ words1.filter isCode, c.before args0 about1 = true := by
  rw [codes_eq]
  intro c hc
  simp only [codes1, List.mem_cons, List.not_mem_nil, or_false] at hc
  rcases hc with rfl | rfl | rfl
  · exact w_c0
  · exact w_c1
  · exact w_c2
set_option maxRecDepth 65536 in
theorem w_t1 : (words1.take 24).all (fun c => isCode c || c.before args0 about1) = true := by decide +kernel
set_option maxRecDepth 65536 in
theorem w_t2 : (words1.drop 24).all (fun c => isCode c || c.before args0 about1) = true := by decide +kernel
theorem w_tables : (allAtoms (Jvm.Cond.code x code maxLocals ret :: tables_1)).before args0 about1 = true := by
  rw [allAtoms_all]
  show words1.all (fun c => c.before args0 about1) = true
  refine all_split ?_ w_codes
  rw [← List.take_append_drop 24 words1, List.all_append, w_t1, w_t2]
  rfl
set_option maxRecDepth 65536 in
theorem w_case : (Jvm.Cond.and given_1 narrow_1).before args0 about1 = true := by decide +kernel
theorem w_applies : (headSpec (Jvm.Cond.code x code maxLocals ret :: tables_1) room_1).applies x e0.platform about1 = true :=
  (Spec.applies_iff w_frames).mpr ⟨w_running, w_runnable, w_alone, w_named, w_hears, w_ripe, w_room, w_tables⟩
theorem atStart : AtStart classFile x code maxLocals ret World_1 tables_1 room_1 Calls_1 rest_1 Pre_1 launch0 p0 e0 about1 theMethod args0 below0 :=
  ⟨lists_1, trivial, launch0.admits_env _ _ _, launch0.least_env, fairChoices_fair.cas, fairChoices_fair.clock, w_frames, w_args, w_heap, w_applies, trivial, trivial, w_case⟩
end start1
theorem witness_1 : WitnessClaimed_1 := ⟨start1.p0, start1.e0, start1.about1, start1.theMethod, start1.args0, start1.below0, start1.atStart⟩
end Jvm.Pilot.@@N@@
