import JvmDerived
import JvmDerived.Pilot.@@N@@Statement
import JvmDerived.Pilot.@@N@@Code
set_option linter.unusedVariables false
set_option linter.unusedSimpArgs false
@@BLOCK:NumsL.lean.txt@@
namespace Jvm.RoadKit
open Sem ClassFile Op Lib Jvm.Stand Jvm.Free Jvm.LawKit
section New
variable {p : Program} {l : Launch} {e : Env} {R : Room} {s : State} {m : MethodId} {args : Array Value} {below : List Frame} {meth : Method} {c : Code} {T : State} {locs : List Loc} {cells slots : Nat}
theorem retI (X : Stand p l e R s m args below meth c T locs cells slots) (hx : p.tables.exec = Jvm.exec) {pc : Nat} {Ls : Array Slot} {z : Int32} {rest : List Value} (hret : meth.sig.returnType = some .int) (hd : decode c.code pc = .ok (.ireturn, 1)) {fs : List Frame}
    (hl : ∀ (f : JFrame) (acts : List Action), f.method = m → f.locked = none → f.entered = [] → (doReturn e (T.setTop f) acts (some (.int z))).1 = T.setFrames fs) : Steps p.tables e below (T.setTop (mkF m pc Ls (.int z :: rest))) (T.setFrames fs) := by
  have hm' : T.vm.method? m = some meth := X.method'
  have hn : narrow .int (.int z) = .int z := rfl
  show Steps p.tables e below (T.setTop { method := m, pc := pc, locals := Ls, stack := _ :: rest, locked := none }) _
  jvm_step X.here [X.here.top, hx, hd, hm', hret, hn]
  first | (intro acts; rw [hl _ acts rfl rfl rfl]) | rw [hl _ _ rfl rfl rfl]
  exact Steps.refl _
end New
end Jvm.RoadKit
namespace Jvm.Pilot.@@N@@
open Jvm Jvm.ClassFile Sem Op Lib Jvm.Free Jvm.Stand Jvm.LawKit Jvm.RoadKit Bundle Jvm.Pilot.@@N@@.Jvm.D
/-- a body that returns r, makes and writes nothing -/
def QP (r : Value) (h0 : Heap) (n0 : Nat) (v : Option Value) (h : Heap) (L : List Loc) : Prop := v = some r ∧ Fr n0 L ∧ h = h0
theorem own_d_prog_59_method_7_code_0 : decode prog_59_method_7_code 0 = .ok (.aload_n 0, 1) := by decide +kernel
theorem own_d_prog_59_method_7_code_1 : decode prog_59_method_7_code 1 = .ok (.getstatic 3, 3) := by decide +kernel
theorem own_d_prog_59_method_7_code_4 : decode prog_59_method_7_code 4 = .ok (.if_acmp .eq 17, 3) := by decide +kernel
theorem own_d_prog_59_method_7_code_21 : decode prog_59_method_7_code 21 = .ok (.iconst 1, 1) := by decide +kernel
theorem own_d_prog_59_method_7_code_22 : decode prog_59_method_7_code 22 = .ok (.goto 4, 3) := by decide +kernel
theorem own_d_prog_59_method_7_code_26 : decode prog_59_method_7_code 26 = .ok (.ireturn, 1) := by decide +kernel
theorem own_d_prog_59_method_7_code_7 : decode prog_59_method_7_code 7 = .ok (.aload_n 0, 1) := by decide +kernel
theorem own_d_prog_59_method_7_code_8 : decode prog_59_method_7_code 8 = .ok (.getstatic 16, 3) := by decide +kernel
theorem own_d_prog_59_method_7_code_11 : decode prog_59_method_7_code 11 = .ok (.if_acmp .eq 10, 3) := by decide +kernel
theorem own_d_prog_59_method_7_code_14 : decode prog_59_method_7_code 14 = .ok (.aload_n 0, 1) := by decide +kernel
theorem own_d_prog_59_method_7_code_15 : decode prog_59_method_7_code 15 = .ok (.getstatic 19, 3) := by decide +kernel
theorem own_d_prog_59_method_7_code_18 : decode prog_59_method_7_code 18 = .ok (.if_acmp .ne 7, 3) := by decide +kernel
theorem own_d_prog_59_method_7_code_25 : decode prog_59_method_7_code 25 = .ok (.iconst 0, 1) := by decide +kernel
theorem own_pd0 : parseMethodDescriptor "()Z" = some ⟨[], some .boolean⟩ := by decide +kernel
theorem own_pn0 : plainName "com/example/fapiao_lens/fapiaolens/Status" = true := by first | (simp [plainName, overriddenIn]; done) | decide +kernel
theorem own_pn1 : plainName "com/example/fapiao_lens/fapiaolens/StatusNeedsNoReviewPinLaw" = true := by first | (simp [plainName, overriddenIn]; done) | decide +kernel
def QL (n0 : Nat) (v : Option Value) (h : Heap) (L : List Loc) : Prop := v = some (.int 1) ∧ Fr n0 L
theorem own_intv {args : Array Value} {Z : State} {t : Term} {k : Int32} (h : (Cond.eq t (.int k)).value args Z none Z [] = some true) : t.eval args Z none [] Z = some (.int k) := by
  obtain ⟨x, y, e1, e2, -, k2⟩ := cmp_v (Or.inl h)
  have e2' : some (Value.int k) = some y := e2
  cases e2'
  obtain ⟨z, rfl⟩ := k2
  have q := gotT (Cond.eq_ints e1 (Term.int_eval k)) h
  rw [← q]; exact e1
theorem own_fldI {args : Array Value} {Z : State} {t : Term} {C n d : String} {k : Int32} {a : Addr} (ht : t.eval args Z none [] Z = some (.ref a)) (h : (Cond.eq (.field t C n d) (.int k)).value args Z none Z [] = some true) : Fld Z Z.heap a C n d (.int k) :=
  Fld.start ((fld_at ht).symm.trans (own_intv h))
theorem own_k (a : Int32) : ((a &&& (2147483647 : Int32)) % (6 : Int32)) = 0 ∨ ((a &&& (2147483647 : Int32)) % (6 : Int32)) = 1 ∨ ((a &&& (2147483647 : Int32)) % (6 : Int32)) = 2 ∨ ((a &&& (2147483647 : Int32)) % (6 : Int32)) = 3 ∨ ((a &&& (2147483647 : Int32)) % (6 : Int32)) = 4 ∨ ((a &&& (2147483647 : Int32)) % (6 : Int32)) = 5 := by
  have e1 : (a &&& 2147483647).toInt = a.toInt % 2 ^ 31 := Jvm.Kit.i32_mask a 2147483647 (k := 31) (by decide) (by decide)
  generalize (a &&& 2147483647) = x at *
  have t6 : (6 : Int32).toInt = 6 := by decide
  have d2 : (x % (6 : Int32)).toInt = x.toInt % 6 := by rw [Int32.toInt_mod, t6, Int.tmod_eq_emod_of_nonneg (by omega)]
  simp only [← Int32.toInt_inj, d2]
  show x.toInt % 6 = 0 ∨ x.toInt % 6 = 1 ∨ x.toInt % 6 = 2 ∨ x.toInt % 6 = 3 ∨ x.toInt % 6 = 4 ∨ x.toInt % 6 = 5
  omega
theorem own_ef_rm2_0 (m : MethodId) (y0 : Addr) : entryFrame m #[(.ref y0)] 1 = mkF m 0 #[.val (.ref y0)] [] := by first | (simp [entryFrame, mkF, argsToLocals, Value.category]; done) | rfl
set_option maxRecDepth 65536 in
set_option maxHeartbeats 40000000 in
theorem rm2_0 (l : Launch) (Z : State) (a0 : Array Value) (hw : ∀ d ∈ tables_1, d.before a0 Z = true) (ws : List Jvm.Cond) (a_CORRECT : Addr) (a_WARNING : Addr) (a_INCORRECT : Addr) (a_MISSING : Addr) (a_ABSENT : Addr) (a_CONFIRMED : Addr) (h0 : Heap) (n0 : Nat) (Z0 : n0 ≤ h0.size) (S_CORRECT : Sta Z h0 "com/example/fapiao_lens/fapiaolens/Status" "CORRECT" "Lcom/example/fapiao_lens/fapiaolens/Status;" (.ref a_CORRECT)) (E_CORRECT : Exa Z h0 a_CORRECT "com/example/fapiao_lens/fapiaolens/Status") (S_WARNING : Sta Z h0 "com/example/fapiao_lens/fapiaolens/Status" "WARNING" "Lcom/example/fapiao_lens/fapiaolens/Status;" (.ref a_WARNING)) (E_WARNING : Exa Z h0 a_WARNING "com/example/fapiao_lens/fapiaolens/Status") (S_INCORRECT : Sta Z h0 "com/example/fapiao_lens/fapiaolens/Status" "INCORRECT" "Lcom/example/fapiao_lens/fapiaolens/Status;" (.ref a_INCORRECT)) (E_INCORRECT : Exa Z h0 a_INCORRECT "com/example/fapiao_lens/fapiaolens/Status") (S_MISSING : Sta Z h0 "com/example/fapiao_lens/fapiaolens/Status" "MISSING" "Lcom/example/fapiao_lens/fapiaolens/Status;" (.ref a_MISSING)) (E_MISSING : Exa Z h0 a_MISSING "com/example/fapiao_lens/fapiaolens/Status") (S_ABSENT : Sta Z h0 "com/example/fapiao_lens/fapiaolens/Status" "ABSENT" "Lcom/example/fapiao_lens/fapiaolens/Status;" (.ref a_ABSENT)) (E_ABSENT : Exa Z h0 a_ABSENT "com/example/fapiao_lens/fapiaolens/Status") (S_CONFIRMED : Sta Z h0 "com/example/fapiao_lens/fapiaolens/Status" "CONFIRMED" "Lcom/example/fapiao_lens/fapiaolens/Status;" (.ref a_CONFIRMED)) (E_CONFIRMED : Exa Z h0 a_CONFIRMED "com/example/fapiao_lens/fapiaolens/Status") (F_MISSING_ordinal : Fld Z h0 a_MISSING "java/lang/Enum" "ordinal" "I" (.int (3 : Int32))) (F_CORRECT_ordinal : Fld Z h0 a_CORRECT "java/lang/Enum" "ordinal" "I" (.int (0 : Int32))) (F_ABSENT_ordinal : Fld Z h0 a_ABSENT "java/lang/Enum" "ordinal" "I" (.int (4 : Int32))) (F_CONFIRMED_ordinal : Fld Z h0 a_CONFIRMED "java/lang/Enum" "ordinal" "I" (.int (5 : Int32))) (F_INCORRECT_ordinal : Fld Z h0 a_INCORRECT "java/lang/Enum" "ordinal" "I" (.int (2 : Int32))) (F_WARNING_ordinal : Fld Z h0 a_WARNING "java/lang/Enum" "ordinal" "I" (.int (1 : Int32))) :
    MetFree l (⟨"com/example/fapiao_lens/fapiaolens/Status", "needsNoReview", "()Z"⟩ : MethodName) (head1 (Jvm.Cond.code (⟨"com/example/fapiao_lens/fapiaolens/Status", "needsNoReview", "()Z"⟩ : MethodName) prog_59_method_7_code 1 (some .boolean) :: ws) ({ frames := 0, cells := 0, slots := 0, locals := 0 } : Room)) (fun ar_ U => ar_ = #[(.ref a_CORRECT)] ∧ Z.Warmed39 U.vm ∧ U.heap = h0) (fun _ _ _ _ _ => True) (fun _ U o U' => ∃ v L, o = .returned v ∧ QP (.int (1 : Int32)) h0 n0 v U'.heap L ∧ FrameEnd U o U' L ({ frames := 0, cells := 0, slots := 0, locals := 0 } : Room).cells ({ frames := 0, cells := 0, slots := 0, locals := 0 } : Room).slots) := by
  refine MetFree.of_bodySF (plainFor_of_name own_pn0) hisR ?_
  intro p e s m args below meth c s₁ Bd hml0 hP hK
  obtain ⟨rfl, hZ, hh⟩ := hP
  have hx := Bd.exec
  have hby := Bd.bytes
  have hml : c.maxLocals = 1 := hml0
  have hown : s.vm.findClass "com/example/fapiao_lens/fapiaolens/Status" = some m.cls := findClass_of_methodNamed Bd.named
  have hnm := (name_of_methodNamed Bd.named Bd.method).1
  have X0 : Stand p l e ({ frames := 0, cells := 0, slots := 0, locals := 0 } : Room) s m #[(.ref a_CORRECT)] below meth c s₁ [] 0 0 := Stand.of_body Bd
  have e0 : s₁.heap = h0 := by rw [← hh, Bd.state]; rfl
  have N0 := Fr.nil n0
  have pre0 : ∀ t, Steps p.tables e below (s₁.setTop (mkF m 0 #[.val (.ref a_CORRECT)] [])) t → Steps p.tables e below (s₁.setTop (entryFrame m #[(.ref a_CORRECT)] 1)) t := fun t k => castTop (own_ef_rm2_0 m a_CORRECT) k
  obtain ⟨T1, X1, e1, st1⟩ := getS2 X0 hx hZ hown (host := "") (Or.inl (hw _ (List.mem_of_getElem? (i := 23) rfl))) Via.refl e0 S_CORRECT (g := (mkF m 1 #[.val (.ref a_CORRECT)] [(.ref a_CORRECT)])) rfl (hb hby own_d_prog_59_method_7_code_1)
  have pre2 : ∀ t, Steps p.tables e below (T1.setTop (mkF m 26 #[.val (.ref a_CORRECT)] [(.int (1 : Int32))])) t → Steps p.tables e below (s₁.setTop (entryFrame m #[(.ref a_CORRECT)] 1)) t := fun t k => pre0 t (by
    show Steps p.tables e below (s₁.setTop (mkF m 0 #[.val (.ref a_CORRECT)] [])) _
    refine XS.aloadN X0.here hx rfl (hb hby own_d_prog_59_method_7_code_0) rfl rfl ?_
    show Steps p.tables e below (s₁.setTop (mkF m 1 #[.val (.ref a_CORRECT)] [(.ref a_CORRECT)])) _
    refine st1 _ ?_
    show Steps p.tables e below (T1.setTop (mkF m 4 #[.val (.ref a_CORRECT)] [(.ref a_CORRECT), (.ref a_CORRECT)])) _
    refine Jvm.RoadKit.acmp (g := (mkF m 4 #[.val (.ref a_CORRECT)] [(.ref a_CORRECT), (.ref a_CORRECT)])) X1 hx rfl rfl rfl (pc0 := 4) (pc' := 21) (same := true) rfl (hb hby own_d_prog_59_method_7_code_4) rfl (decide_eq_true (rfl)) (by decide) (by decide) ?_
    show Steps p.tables e below (T1.setTop (mkF m 21 #[.val (.ref a_CORRECT)] [])) _
    refine XS.iconst X1.here hx rfl (hb hby own_d_prog_59_method_7_code_21) ?_
    show Steps p.tables e below (T1.setTop (mkF m 22 #[.val (.ref a_CORRECT)] [(.int (1 : Int32))])) _
    refine XS.goto X1.here hx rfl (pc0 := 22) (pc' := 26) rfl (hb hby own_d_prog_59_method_7_code_22) (by decide) (by decide) ?_
    exact k)
  obtain ⟨fs, hr, hrun, hended, hW, hsame⟩ := X1.leave (v := some (.int (nar .boolean (1 : Int32)))) (fun h => by rw [Bd.returns] at h; cases h)
  refine ⟨_, _, pre2 _ ?_, hrun, hended, _, _, rfl, ?_, ⟨_, rfl⟩, hW, hsame.mono (by decide) (by decide)⟩
  · show Steps p.tables e below (T1.setTop (mkF m 26 #[.val (.ref a_CORRECT)] [(.int (1 : Int32))])) _
    exact retN X1 hx (t := .boolean) Bd.returns (by simp) (hb hby own_d_prog_59_method_7_code_26) hr
  · show QP (.int (1 : Int32)) h0 n0 _ T1.heap _
    rw [e1]
    exact ⟨rfl, N0, rfl⟩
theorem own_ef_rm2_1 (m : MethodId) (y0 : Addr) : entryFrame m #[(.ref y0)] 1 = mkF m 0 #[.val (.ref y0)] [] := by first | (simp [entryFrame, mkF, argsToLocals, Value.category]; done) | rfl
set_option maxRecDepth 65536 in
set_option maxHeartbeats 40000000 in
theorem rm2_1 (l : Launch) (Z : State) (a0 : Array Value) (hw : ∀ d ∈ tables_1, d.before a0 Z = true) (ws : List Jvm.Cond) (a_CORRECT : Addr) (a_WARNING : Addr) (a_INCORRECT : Addr) (a_MISSING : Addr) (a_ABSENT : Addr) (a_CONFIRMED : Addr) (h0 : Heap) (n0 : Nat) (Z0 : n0 ≤ h0.size) (S_CORRECT : Sta Z h0 "com/example/fapiao_lens/fapiaolens/Status" "CORRECT" "Lcom/example/fapiao_lens/fapiaolens/Status;" (.ref a_CORRECT)) (E_CORRECT : Exa Z h0 a_CORRECT "com/example/fapiao_lens/fapiaolens/Status") (S_WARNING : Sta Z h0 "com/example/fapiao_lens/fapiaolens/Status" "WARNING" "Lcom/example/fapiao_lens/fapiaolens/Status;" (.ref a_WARNING)) (E_WARNING : Exa Z h0 a_WARNING "com/example/fapiao_lens/fapiaolens/Status") (S_INCORRECT : Sta Z h0 "com/example/fapiao_lens/fapiaolens/Status" "INCORRECT" "Lcom/example/fapiao_lens/fapiaolens/Status;" (.ref a_INCORRECT)) (E_INCORRECT : Exa Z h0 a_INCORRECT "com/example/fapiao_lens/fapiaolens/Status") (S_MISSING : Sta Z h0 "com/example/fapiao_lens/fapiaolens/Status" "MISSING" "Lcom/example/fapiao_lens/fapiaolens/Status;" (.ref a_MISSING)) (E_MISSING : Exa Z h0 a_MISSING "com/example/fapiao_lens/fapiaolens/Status") (S_ABSENT : Sta Z h0 "com/example/fapiao_lens/fapiaolens/Status" "ABSENT" "Lcom/example/fapiao_lens/fapiaolens/Status;" (.ref a_ABSENT)) (E_ABSENT : Exa Z h0 a_ABSENT "com/example/fapiao_lens/fapiaolens/Status") (S_CONFIRMED : Sta Z h0 "com/example/fapiao_lens/fapiaolens/Status" "CONFIRMED" "Lcom/example/fapiao_lens/fapiaolens/Status;" (.ref a_CONFIRMED)) (E_CONFIRMED : Exa Z h0 a_CONFIRMED "com/example/fapiao_lens/fapiaolens/Status") (F_MISSING_ordinal : Fld Z h0 a_MISSING "java/lang/Enum" "ordinal" "I" (.int (3 : Int32))) (F_CORRECT_ordinal : Fld Z h0 a_CORRECT "java/lang/Enum" "ordinal" "I" (.int (0 : Int32))) (F_ABSENT_ordinal : Fld Z h0 a_ABSENT "java/lang/Enum" "ordinal" "I" (.int (4 : Int32))) (F_CONFIRMED_ordinal : Fld Z h0 a_CONFIRMED "java/lang/Enum" "ordinal" "I" (.int (5 : Int32))) (F_INCORRECT_ordinal : Fld Z h0 a_INCORRECT "java/lang/Enum" "ordinal" "I" (.int (2 : Int32))) (F_WARNING_ordinal : Fld Z h0 a_WARNING "java/lang/Enum" "ordinal" "I" (.int (1 : Int32))) :
    MetFree l (⟨"com/example/fapiao_lens/fapiaolens/Status", "needsNoReview", "()Z"⟩ : MethodName) (head1 (Jvm.Cond.code (⟨"com/example/fapiao_lens/fapiaolens/Status", "needsNoReview", "()Z"⟩ : MethodName) prog_59_method_7_code 1 (some .boolean) :: ws) ({ frames := 0, cells := 0, slots := 0, locals := 0 } : Room)) (fun ar_ U => ar_ = #[(.ref a_WARNING)] ∧ Z.Warmed39 U.vm ∧ U.heap = h0) (fun _ _ _ _ _ => True) (fun _ U o U' => ∃ v L, o = .returned v ∧ QP (.int (0 : Int32)) h0 n0 v U'.heap L ∧ FrameEnd U o U' L ({ frames := 0, cells := 0, slots := 0, locals := 0 } : Room).cells ({ frames := 0, cells := 0, slots := 0, locals := 0 } : Room).slots) := by
  refine MetFree.of_bodySF (plainFor_of_name own_pn0) hisR ?_
  intro p e s m args below meth c s₁ Bd hml0 hP hK
  obtain ⟨rfl, hZ, hh⟩ := hP
  have hx := Bd.exec
  have hby := Bd.bytes
  have hml : c.maxLocals = 1 := hml0
  have hown : s.vm.findClass "com/example/fapiao_lens/fapiaolens/Status" = some m.cls := findClass_of_methodNamed Bd.named
  have hnm := (name_of_methodNamed Bd.named Bd.method).1
  have X0 : Stand p l e ({ frames := 0, cells := 0, slots := 0, locals := 0 } : Room) s m #[(.ref a_WARNING)] below meth c s₁ [] 0 0 := Stand.of_body Bd
  have e0 : s₁.heap = h0 := by rw [← hh, Bd.state]; rfl
  have N0 := Fr.nil n0
  have pre0 : ∀ t, Steps p.tables e below (s₁.setTop (mkF m 0 #[.val (.ref a_WARNING)] [])) t → Steps p.tables e below (s₁.setTop (entryFrame m #[(.ref a_WARNING)] 1)) t := fun t k => castTop (own_ef_rm2_1 m a_WARNING) k
  obtain ⟨T1, X1, e1, st1⟩ := getS2 X0 hx hZ hown (host := "") (Or.inl (hw _ (List.mem_of_getElem? (i := 23) rfl))) Via.refl e0 S_CORRECT (g := (mkF m 1 #[.val (.ref a_WARNING)] [(.ref a_WARNING)])) rfl (hb hby own_d_prog_59_method_7_code_1)
  obtain ⟨T2, X2, e2, st2⟩ := getS2 X1 hx hZ hown (host := "") (Or.inl (hw _ (List.mem_of_getElem? (i := 24) rfl))) Via.refl e1 S_ABSENT (g := (mkF m 8 #[.val (.ref a_WARNING)] [(.ref a_WARNING)])) rfl (hb hby own_d_prog_59_method_7_code_8)
  obtain ⟨T3, X3, e3, st3⟩ := getS2 X2 hx hZ hown (host := "") (Or.inl (hw _ (List.mem_of_getElem? (i := 25) rfl))) Via.refl e2 S_CONFIRMED (g := (mkF m 15 #[.val (.ref a_WARNING)] [(.ref a_WARNING)])) rfl (hb hby own_d_prog_59_method_7_code_15)
  have pre4 : ∀ t, Steps p.tables e below (T3.setTop (mkF m 26 #[.val (.ref a_WARNING)] [(.int (0 : Int32))])) t → Steps p.tables e below (s₁.setTop (entryFrame m #[(.ref a_WARNING)] 1)) t := fun t k => pre0 t (by
    show Steps p.tables e below (s₁.setTop (mkF m 0 #[.val (.ref a_WARNING)] [])) _
    refine XS.aloadN X0.here hx rfl (hb hby own_d_prog_59_method_7_code_0) rfl rfl ?_
    show Steps p.tables e below (s₁.setTop (mkF m 1 #[.val (.ref a_WARNING)] [(.ref a_WARNING)])) _
    refine st1 _ ?_
    show Steps p.tables e below (T1.setTop (mkF m 4 #[.val (.ref a_WARNING)] [(.ref a_CORRECT), (.ref a_WARNING)])) _
    refine Jvm.RoadKit.acmp (g := (mkF m 4 #[.val (.ref a_WARNING)] [(.ref a_CORRECT), (.ref a_WARNING)])) X1 hx rfl rfl rfl (pc0 := 4) (pc' := 7) (same := false) rfl (hb hby own_d_prog_59_method_7_code_4) rfl (decide_eq_false fun q => ((Fld.ne F_WARNING_ordinal F_CORRECT_ordinal (by decide)) : ¬ (a_WARNING = a_CORRECT)) (Value.ref.inj q)) (by decide) (by decide) ?_
    show Steps p.tables e below (T1.setTop (mkF m 7 #[.val (.ref a_WARNING)] [])) _
    refine XS.aloadN X1.here hx rfl (hb hby own_d_prog_59_method_7_code_7) rfl rfl ?_
    show Steps p.tables e below (T1.setTop (mkF m 8 #[.val (.ref a_WARNING)] [(.ref a_WARNING)])) _
    refine st2 _ ?_
    show Steps p.tables e below (T2.setTop (mkF m 11 #[.val (.ref a_WARNING)] [(.ref a_ABSENT), (.ref a_WARNING)])) _
    refine Jvm.RoadKit.acmp (g := (mkF m 11 #[.val (.ref a_WARNING)] [(.ref a_ABSENT), (.ref a_WARNING)])) X2 hx rfl rfl rfl (pc0 := 11) (pc' := 14) (same := false) rfl (hb hby own_d_prog_59_method_7_code_11) rfl (decide_eq_false fun q => ((Fld.ne F_WARNING_ordinal F_ABSENT_ordinal (by decide)) : ¬ (a_WARNING = a_ABSENT)) (Value.ref.inj q)) (by decide) (by decide) ?_
    show Steps p.tables e below (T2.setTop (mkF m 14 #[.val (.ref a_WARNING)] [])) _
    refine XS.aloadN X2.here hx rfl (hb hby own_d_prog_59_method_7_code_14) rfl rfl ?_
    show Steps p.tables e below (T2.setTop (mkF m 15 #[.val (.ref a_WARNING)] [(.ref a_WARNING)])) _
    refine st3 _ ?_
    show Steps p.tables e below (T3.setTop (mkF m 18 #[.val (.ref a_WARNING)] [(.ref a_CONFIRMED), (.ref a_WARNING)])) _
    refine Jvm.RoadKit.acmp (g := (mkF m 18 #[.val (.ref a_WARNING)] [(.ref a_CONFIRMED), (.ref a_WARNING)])) X3 hx rfl rfl rfl (pc0 := 18) (pc' := 25) (same := false) rfl (hb hby own_d_prog_59_method_7_code_18) rfl (decide_eq_false fun q => ((Fld.ne F_WARNING_ordinal F_CONFIRMED_ordinal (by decide)) : ¬ (a_WARNING = a_CONFIRMED)) (Value.ref.inj q)) (by decide) (by decide) ?_
    show Steps p.tables e below (T3.setTop (mkF m 25 #[.val (.ref a_WARNING)] [])) _
    refine XS.iconst X3.here hx rfl (hb hby own_d_prog_59_method_7_code_25) ?_
    exact k)
  obtain ⟨fs, hr, hrun, hended, hW, hsame⟩ := X3.leave (v := some (.int (nar .boolean (0 : Int32)))) (fun h => by rw [Bd.returns] at h; cases h)
  refine ⟨_, _, pre4 _ ?_, hrun, hended, _, _, rfl, ?_, ⟨_, rfl⟩, hW, hsame.mono (by decide) (by decide)⟩
  · show Steps p.tables e below (T3.setTop (mkF m 26 #[.val (.ref a_WARNING)] [(.int (0 : Int32))])) _
    exact retN X3 hx (t := .boolean) Bd.returns (by simp) (hb hby own_d_prog_59_method_7_code_26) hr
  · show QP (.int (0 : Int32)) h0 n0 _ T3.heap _
    rw [e3]
    exact ⟨rfl, N0, rfl⟩
theorem own_ef_rm2_2 (m : MethodId) (y0 : Addr) : entryFrame m #[(.ref y0)] 1 = mkF m 0 #[.val (.ref y0)] [] := by first | (simp [entryFrame, mkF, argsToLocals, Value.category]; done) | rfl
set_option maxRecDepth 65536 in
set_option maxHeartbeats 40000000 in
theorem rm2_2 (l : Launch) (Z : State) (a0 : Array Value) (hw : ∀ d ∈ tables_1, d.before a0 Z = true) (ws : List Jvm.Cond) (a_CORRECT : Addr) (a_WARNING : Addr) (a_INCORRECT : Addr) (a_MISSING : Addr) (a_ABSENT : Addr) (a_CONFIRMED : Addr) (h0 : Heap) (n0 : Nat) (Z0 : n0 ≤ h0.size) (S_CORRECT : Sta Z h0 "com/example/fapiao_lens/fapiaolens/Status" "CORRECT" "Lcom/example/fapiao_lens/fapiaolens/Status;" (.ref a_CORRECT)) (E_CORRECT : Exa Z h0 a_CORRECT "com/example/fapiao_lens/fapiaolens/Status") (S_WARNING : Sta Z h0 "com/example/fapiao_lens/fapiaolens/Status" "WARNING" "Lcom/example/fapiao_lens/fapiaolens/Status;" (.ref a_WARNING)) (E_WARNING : Exa Z h0 a_WARNING "com/example/fapiao_lens/fapiaolens/Status") (S_INCORRECT : Sta Z h0 "com/example/fapiao_lens/fapiaolens/Status" "INCORRECT" "Lcom/example/fapiao_lens/fapiaolens/Status;" (.ref a_INCORRECT)) (E_INCORRECT : Exa Z h0 a_INCORRECT "com/example/fapiao_lens/fapiaolens/Status") (S_MISSING : Sta Z h0 "com/example/fapiao_lens/fapiaolens/Status" "MISSING" "Lcom/example/fapiao_lens/fapiaolens/Status;" (.ref a_MISSING)) (E_MISSING : Exa Z h0 a_MISSING "com/example/fapiao_lens/fapiaolens/Status") (S_ABSENT : Sta Z h0 "com/example/fapiao_lens/fapiaolens/Status" "ABSENT" "Lcom/example/fapiao_lens/fapiaolens/Status;" (.ref a_ABSENT)) (E_ABSENT : Exa Z h0 a_ABSENT "com/example/fapiao_lens/fapiaolens/Status") (S_CONFIRMED : Sta Z h0 "com/example/fapiao_lens/fapiaolens/Status" "CONFIRMED" "Lcom/example/fapiao_lens/fapiaolens/Status;" (.ref a_CONFIRMED)) (E_CONFIRMED : Exa Z h0 a_CONFIRMED "com/example/fapiao_lens/fapiaolens/Status") (F_MISSING_ordinal : Fld Z h0 a_MISSING "java/lang/Enum" "ordinal" "I" (.int (3 : Int32))) (F_CORRECT_ordinal : Fld Z h0 a_CORRECT "java/lang/Enum" "ordinal" "I" (.int (0 : Int32))) (F_ABSENT_ordinal : Fld Z h0 a_ABSENT "java/lang/Enum" "ordinal" "I" (.int (4 : Int32))) (F_CONFIRMED_ordinal : Fld Z h0 a_CONFIRMED "java/lang/Enum" "ordinal" "I" (.int (5 : Int32))) (F_INCORRECT_ordinal : Fld Z h0 a_INCORRECT "java/lang/Enum" "ordinal" "I" (.int (2 : Int32))) (F_WARNING_ordinal : Fld Z h0 a_WARNING "java/lang/Enum" "ordinal" "I" (.int (1 : Int32))) :
    MetFree l (⟨"com/example/fapiao_lens/fapiaolens/Status", "needsNoReview", "()Z"⟩ : MethodName) (head1 (Jvm.Cond.code (⟨"com/example/fapiao_lens/fapiaolens/Status", "needsNoReview", "()Z"⟩ : MethodName) prog_59_method_7_code 1 (some .boolean) :: ws) ({ frames := 0, cells := 0, slots := 0, locals := 0 } : Room)) (fun ar_ U => ar_ = #[(.ref a_INCORRECT)] ∧ Z.Warmed39 U.vm ∧ U.heap = h0) (fun _ _ _ _ _ => True) (fun _ U o U' => ∃ v L, o = .returned v ∧ QP (.int (0 : Int32)) h0 n0 v U'.heap L ∧ FrameEnd U o U' L ({ frames := 0, cells := 0, slots := 0, locals := 0 } : Room).cells ({ frames := 0, cells := 0, slots := 0, locals := 0 } : Room).slots) := by
  refine MetFree.of_bodySF (plainFor_of_name own_pn0) hisR ?_
  intro p e s m args below meth c s₁ Bd hml0 hP hK
  obtain ⟨rfl, hZ, hh⟩ := hP
  have hx := Bd.exec
  have hby := Bd.bytes
  have hml : c.maxLocals = 1 := hml0
  have hown : s.vm.findClass "com/example/fapiao_lens/fapiaolens/Status" = some m.cls := findClass_of_methodNamed Bd.named
  have hnm := (name_of_methodNamed Bd.named Bd.method).1
  have X0 : Stand p l e ({ frames := 0, cells := 0, slots := 0, locals := 0 } : Room) s m #[(.ref a_INCORRECT)] below meth c s₁ [] 0 0 := Stand.of_body Bd
  have e0 : s₁.heap = h0 := by rw [← hh, Bd.state]; rfl
  have N0 := Fr.nil n0
  have pre0 : ∀ t, Steps p.tables e below (s₁.setTop (mkF m 0 #[.val (.ref a_INCORRECT)] [])) t → Steps p.tables e below (s₁.setTop (entryFrame m #[(.ref a_INCORRECT)] 1)) t := fun t k => castTop (own_ef_rm2_2 m a_INCORRECT) k
  obtain ⟨T1, X1, e1, st1⟩ := getS2 X0 hx hZ hown (host := "") (Or.inl (hw _ (List.mem_of_getElem? (i := 23) rfl))) Via.refl e0 S_CORRECT (g := (mkF m 1 #[.val (.ref a_INCORRECT)] [(.ref a_INCORRECT)])) rfl (hb hby own_d_prog_59_method_7_code_1)
  obtain ⟨T2, X2, e2, st2⟩ := getS2 X1 hx hZ hown (host := "") (Or.inl (hw _ (List.mem_of_getElem? (i := 24) rfl))) Via.refl e1 S_ABSENT (g := (mkF m 8 #[.val (.ref a_INCORRECT)] [(.ref a_INCORRECT)])) rfl (hb hby own_d_prog_59_method_7_code_8)
  obtain ⟨T3, X3, e3, st3⟩ := getS2 X2 hx hZ hown (host := "") (Or.inl (hw _ (List.mem_of_getElem? (i := 25) rfl))) Via.refl e2 S_CONFIRMED (g := (mkF m 15 #[.val (.ref a_INCORRECT)] [(.ref a_INCORRECT)])) rfl (hb hby own_d_prog_59_method_7_code_15)
  have pre4 : ∀ t, Steps p.tables e below (T3.setTop (mkF m 26 #[.val (.ref a_INCORRECT)] [(.int (0 : Int32))])) t → Steps p.tables e below (s₁.setTop (entryFrame m #[(.ref a_INCORRECT)] 1)) t := fun t k => pre0 t (by
    show Steps p.tables e below (s₁.setTop (mkF m 0 #[.val (.ref a_INCORRECT)] [])) _
    refine XS.aloadN X0.here hx rfl (hb hby own_d_prog_59_method_7_code_0) rfl rfl ?_
    show Steps p.tables e below (s₁.setTop (mkF m 1 #[.val (.ref a_INCORRECT)] [(.ref a_INCORRECT)])) _
    refine st1 _ ?_
    show Steps p.tables e below (T1.setTop (mkF m 4 #[.val (.ref a_INCORRECT)] [(.ref a_CORRECT), (.ref a_INCORRECT)])) _
    refine Jvm.RoadKit.acmp (g := (mkF m 4 #[.val (.ref a_INCORRECT)] [(.ref a_CORRECT), (.ref a_INCORRECT)])) X1 hx rfl rfl rfl (pc0 := 4) (pc' := 7) (same := false) rfl (hb hby own_d_prog_59_method_7_code_4) rfl (decide_eq_false fun q => ((Fld.ne F_INCORRECT_ordinal F_CORRECT_ordinal (by decide)) : ¬ (a_INCORRECT = a_CORRECT)) (Value.ref.inj q)) (by decide) (by decide) ?_
    show Steps p.tables e below (T1.setTop (mkF m 7 #[.val (.ref a_INCORRECT)] [])) _
    refine XS.aloadN X1.here hx rfl (hb hby own_d_prog_59_method_7_code_7) rfl rfl ?_
    show Steps p.tables e below (T1.setTop (mkF m 8 #[.val (.ref a_INCORRECT)] [(.ref a_INCORRECT)])) _
    refine st2 _ ?_
    show Steps p.tables e below (T2.setTop (mkF m 11 #[.val (.ref a_INCORRECT)] [(.ref a_ABSENT), (.ref a_INCORRECT)])) _
    refine Jvm.RoadKit.acmp (g := (mkF m 11 #[.val (.ref a_INCORRECT)] [(.ref a_ABSENT), (.ref a_INCORRECT)])) X2 hx rfl rfl rfl (pc0 := 11) (pc' := 14) (same := false) rfl (hb hby own_d_prog_59_method_7_code_11) rfl (decide_eq_false fun q => ((Fld.ne F_INCORRECT_ordinal F_ABSENT_ordinal (by decide)) : ¬ (a_INCORRECT = a_ABSENT)) (Value.ref.inj q)) (by decide) (by decide) ?_
    show Steps p.tables e below (T2.setTop (mkF m 14 #[.val (.ref a_INCORRECT)] [])) _
    refine XS.aloadN X2.here hx rfl (hb hby own_d_prog_59_method_7_code_14) rfl rfl ?_
    show Steps p.tables e below (T2.setTop (mkF m 15 #[.val (.ref a_INCORRECT)] [(.ref a_INCORRECT)])) _
    refine st3 _ ?_
    show Steps p.tables e below (T3.setTop (mkF m 18 #[.val (.ref a_INCORRECT)] [(.ref a_CONFIRMED), (.ref a_INCORRECT)])) _
    refine Jvm.RoadKit.acmp (g := (mkF m 18 #[.val (.ref a_INCORRECT)] [(.ref a_CONFIRMED), (.ref a_INCORRECT)])) X3 hx rfl rfl rfl (pc0 := 18) (pc' := 25) (same := false) rfl (hb hby own_d_prog_59_method_7_code_18) rfl (decide_eq_false fun q => ((Fld.ne F_INCORRECT_ordinal F_CONFIRMED_ordinal (by decide)) : ¬ (a_INCORRECT = a_CONFIRMED)) (Value.ref.inj q)) (by decide) (by decide) ?_
    show Steps p.tables e below (T3.setTop (mkF m 25 #[.val (.ref a_INCORRECT)] [])) _
    refine XS.iconst X3.here hx rfl (hb hby own_d_prog_59_method_7_code_25) ?_
    exact k)
  obtain ⟨fs, hr, hrun, hended, hW, hsame⟩ := X3.leave (v := some (.int (nar .boolean (0 : Int32)))) (fun h => by rw [Bd.returns] at h; cases h)
  refine ⟨_, _, pre4 _ ?_, hrun, hended, _, _, rfl, ?_, ⟨_, rfl⟩, hW, hsame.mono (by decide) (by decide)⟩
  · show Steps p.tables e below (T3.setTop (mkF m 26 #[.val (.ref a_INCORRECT)] [(.int (0 : Int32))])) _
    exact retN X3 hx (t := .boolean) Bd.returns (by simp) (hb hby own_d_prog_59_method_7_code_26) hr
  · show QP (.int (0 : Int32)) h0 n0 _ T3.heap _
    rw [e3]
    exact ⟨rfl, N0, rfl⟩
theorem own_ef_rm2_3 (m : MethodId) (y0 : Addr) : entryFrame m #[(.ref y0)] 1 = mkF m 0 #[.val (.ref y0)] [] := by first | (simp [entryFrame, mkF, argsToLocals, Value.category]; done) | rfl
set_option maxRecDepth 65536 in
set_option maxHeartbeats 40000000 in
theorem rm2_3 (l : Launch) (Z : State) (a0 : Array Value) (hw : ∀ d ∈ tables_1, d.before a0 Z = true) (ws : List Jvm.Cond) (a_CORRECT : Addr) (a_WARNING : Addr) (a_INCORRECT : Addr) (a_MISSING : Addr) (a_ABSENT : Addr) (a_CONFIRMED : Addr) (h0 : Heap) (n0 : Nat) (Z0 : n0 ≤ h0.size) (S_CORRECT : Sta Z h0 "com/example/fapiao_lens/fapiaolens/Status" "CORRECT" "Lcom/example/fapiao_lens/fapiaolens/Status;" (.ref a_CORRECT)) (E_CORRECT : Exa Z h0 a_CORRECT "com/example/fapiao_lens/fapiaolens/Status") (S_WARNING : Sta Z h0 "com/example/fapiao_lens/fapiaolens/Status" "WARNING" "Lcom/example/fapiao_lens/fapiaolens/Status;" (.ref a_WARNING)) (E_WARNING : Exa Z h0 a_WARNING "com/example/fapiao_lens/fapiaolens/Status") (S_INCORRECT : Sta Z h0 "com/example/fapiao_lens/fapiaolens/Status" "INCORRECT" "Lcom/example/fapiao_lens/fapiaolens/Status;" (.ref a_INCORRECT)) (E_INCORRECT : Exa Z h0 a_INCORRECT "com/example/fapiao_lens/fapiaolens/Status") (S_MISSING : Sta Z h0 "com/example/fapiao_lens/fapiaolens/Status" "MISSING" "Lcom/example/fapiao_lens/fapiaolens/Status;" (.ref a_MISSING)) (E_MISSING : Exa Z h0 a_MISSING "com/example/fapiao_lens/fapiaolens/Status") (S_ABSENT : Sta Z h0 "com/example/fapiao_lens/fapiaolens/Status" "ABSENT" "Lcom/example/fapiao_lens/fapiaolens/Status;" (.ref a_ABSENT)) (E_ABSENT : Exa Z h0 a_ABSENT "com/example/fapiao_lens/fapiaolens/Status") (S_CONFIRMED : Sta Z h0 "com/example/fapiao_lens/fapiaolens/Status" "CONFIRMED" "Lcom/example/fapiao_lens/fapiaolens/Status;" (.ref a_CONFIRMED)) (E_CONFIRMED : Exa Z h0 a_CONFIRMED "com/example/fapiao_lens/fapiaolens/Status") (F_MISSING_ordinal : Fld Z h0 a_MISSING "java/lang/Enum" "ordinal" "I" (.int (3 : Int32))) (F_CORRECT_ordinal : Fld Z h0 a_CORRECT "java/lang/Enum" "ordinal" "I" (.int (0 : Int32))) (F_ABSENT_ordinal : Fld Z h0 a_ABSENT "java/lang/Enum" "ordinal" "I" (.int (4 : Int32))) (F_CONFIRMED_ordinal : Fld Z h0 a_CONFIRMED "java/lang/Enum" "ordinal" "I" (.int (5 : Int32))) (F_INCORRECT_ordinal : Fld Z h0 a_INCORRECT "java/lang/Enum" "ordinal" "I" (.int (2 : Int32))) (F_WARNING_ordinal : Fld Z h0 a_WARNING "java/lang/Enum" "ordinal" "I" (.int (1 : Int32))) :
    MetFree l (⟨"com/example/fapiao_lens/fapiaolens/Status", "needsNoReview", "()Z"⟩ : MethodName) (head1 (Jvm.Cond.code (⟨"com/example/fapiao_lens/fapiaolens/Status", "needsNoReview", "()Z"⟩ : MethodName) prog_59_method_7_code 1 (some .boolean) :: ws) ({ frames := 0, cells := 0, slots := 0, locals := 0 } : Room)) (fun ar_ U => ar_ = #[(.ref a_MISSING)] ∧ Z.Warmed39 U.vm ∧ U.heap = h0) (fun _ _ _ _ _ => True) (fun _ U o U' => ∃ v L, o = .returned v ∧ QP (.int (0 : Int32)) h0 n0 v U'.heap L ∧ FrameEnd U o U' L ({ frames := 0, cells := 0, slots := 0, locals := 0 } : Room).cells ({ frames := 0, cells := 0, slots := 0, locals := 0 } : Room).slots) := by
  refine MetFree.of_bodySF (plainFor_of_name own_pn0) hisR ?_
  intro p e s m args below meth c s₁ Bd hml0 hP hK
  obtain ⟨rfl, hZ, hh⟩ := hP
  have hx := Bd.exec
  have hby := Bd.bytes
  have hml : c.maxLocals = 1 := hml0
  have hown : s.vm.findClass "com/example/fapiao_lens/fapiaolens/Status" = some m.cls := findClass_of_methodNamed Bd.named
  have hnm := (name_of_methodNamed Bd.named Bd.method).1
  have X0 : Stand p l e ({ frames := 0, cells := 0, slots := 0, locals := 0 } : Room) s m #[(.ref a_MISSING)] below meth c s₁ [] 0 0 := Stand.of_body Bd
  have e0 : s₁.heap = h0 := by rw [← hh, Bd.state]; rfl
  have N0 := Fr.nil n0
  have pre0 : ∀ t, Steps p.tables e below (s₁.setTop (mkF m 0 #[.val (.ref a_MISSING)] [])) t → Steps p.tables e below (s₁.setTop (entryFrame m #[(.ref a_MISSING)] 1)) t := fun t k => castTop (own_ef_rm2_3 m a_MISSING) k
  obtain ⟨T1, X1, e1, st1⟩ := getS2 X0 hx hZ hown (host := "") (Or.inl (hw _ (List.mem_of_getElem? (i := 23) rfl))) Via.refl e0 S_CORRECT (g := (mkF m 1 #[.val (.ref a_MISSING)] [(.ref a_MISSING)])) rfl (hb hby own_d_prog_59_method_7_code_1)
  obtain ⟨T2, X2, e2, st2⟩ := getS2 X1 hx hZ hown (host := "") (Or.inl (hw _ (List.mem_of_getElem? (i := 24) rfl))) Via.refl e1 S_ABSENT (g := (mkF m 8 #[.val (.ref a_MISSING)] [(.ref a_MISSING)])) rfl (hb hby own_d_prog_59_method_7_code_8)
  obtain ⟨T3, X3, e3, st3⟩ := getS2 X2 hx hZ hown (host := "") (Or.inl (hw _ (List.mem_of_getElem? (i := 25) rfl))) Via.refl e2 S_CONFIRMED (g := (mkF m 15 #[.val (.ref a_MISSING)] [(.ref a_MISSING)])) rfl (hb hby own_d_prog_59_method_7_code_15)
  have pre4 : ∀ t, Steps p.tables e below (T3.setTop (mkF m 26 #[.val (.ref a_MISSING)] [(.int (0 : Int32))])) t → Steps p.tables e below (s₁.setTop (entryFrame m #[(.ref a_MISSING)] 1)) t := fun t k => pre0 t (by
    show Steps p.tables e below (s₁.setTop (mkF m 0 #[.val (.ref a_MISSING)] [])) _
    refine XS.aloadN X0.here hx rfl (hb hby own_d_prog_59_method_7_code_0) rfl rfl ?_
    show Steps p.tables e below (s₁.setTop (mkF m 1 #[.val (.ref a_MISSING)] [(.ref a_MISSING)])) _
    refine st1 _ ?_
    show Steps p.tables e below (T1.setTop (mkF m 4 #[.val (.ref a_MISSING)] [(.ref a_CORRECT), (.ref a_MISSING)])) _
    refine Jvm.RoadKit.acmp (g := (mkF m 4 #[.val (.ref a_MISSING)] [(.ref a_CORRECT), (.ref a_MISSING)])) X1 hx rfl rfl rfl (pc0 := 4) (pc' := 7) (same := false) rfl (hb hby own_d_prog_59_method_7_code_4) rfl (decide_eq_false fun q => ((Fld.ne F_MISSING_ordinal F_CORRECT_ordinal (by decide)) : ¬ (a_MISSING = a_CORRECT)) (Value.ref.inj q)) (by decide) (by decide) ?_
    show Steps p.tables e below (T1.setTop (mkF m 7 #[.val (.ref a_MISSING)] [])) _
    refine XS.aloadN X1.here hx rfl (hb hby own_d_prog_59_method_7_code_7) rfl rfl ?_
    show Steps p.tables e below (T1.setTop (mkF m 8 #[.val (.ref a_MISSING)] [(.ref a_MISSING)])) _
    refine st2 _ ?_
    show Steps p.tables e below (T2.setTop (mkF m 11 #[.val (.ref a_MISSING)] [(.ref a_ABSENT), (.ref a_MISSING)])) _
    refine Jvm.RoadKit.acmp (g := (mkF m 11 #[.val (.ref a_MISSING)] [(.ref a_ABSENT), (.ref a_MISSING)])) X2 hx rfl rfl rfl (pc0 := 11) (pc' := 14) (same := false) rfl (hb hby own_d_prog_59_method_7_code_11) rfl (decide_eq_false fun q => ((Fld.ne F_MISSING_ordinal F_ABSENT_ordinal (by decide)) : ¬ (a_MISSING = a_ABSENT)) (Value.ref.inj q)) (by decide) (by decide) ?_
    show Steps p.tables e below (T2.setTop (mkF m 14 #[.val (.ref a_MISSING)] [])) _
    refine XS.aloadN X2.here hx rfl (hb hby own_d_prog_59_method_7_code_14) rfl rfl ?_
    show Steps p.tables e below (T2.setTop (mkF m 15 #[.val (.ref a_MISSING)] [(.ref a_MISSING)])) _
    refine st3 _ ?_
    show Steps p.tables e below (T3.setTop (mkF m 18 #[.val (.ref a_MISSING)] [(.ref a_CONFIRMED), (.ref a_MISSING)])) _
    refine Jvm.RoadKit.acmp (g := (mkF m 18 #[.val (.ref a_MISSING)] [(.ref a_CONFIRMED), (.ref a_MISSING)])) X3 hx rfl rfl rfl (pc0 := 18) (pc' := 25) (same := false) rfl (hb hby own_d_prog_59_method_7_code_18) rfl (decide_eq_false fun q => ((Fld.ne F_MISSING_ordinal F_CONFIRMED_ordinal (by decide)) : ¬ (a_MISSING = a_CONFIRMED)) (Value.ref.inj q)) (by decide) (by decide) ?_
    show Steps p.tables e below (T3.setTop (mkF m 25 #[.val (.ref a_MISSING)] [])) _
    refine XS.iconst X3.here hx rfl (hb hby own_d_prog_59_method_7_code_25) ?_
    exact k)
  obtain ⟨fs, hr, hrun, hended, hW, hsame⟩ := X3.leave (v := some (.int (nar .boolean (0 : Int32)))) (fun h => by rw [Bd.returns] at h; cases h)
  refine ⟨_, _, pre4 _ ?_, hrun, hended, _, _, rfl, ?_, ⟨_, rfl⟩, hW, hsame.mono (by decide) (by decide)⟩
  · show Steps p.tables e below (T3.setTop (mkF m 26 #[.val (.ref a_MISSING)] [(.int (0 : Int32))])) _
    exact retN X3 hx (t := .boolean) Bd.returns (by simp) (hb hby own_d_prog_59_method_7_code_26) hr
  · show QP (.int (0 : Int32)) h0 n0 _ T3.heap _
    rw [e3]
    exact ⟨rfl, N0, rfl⟩
theorem own_ef_rm2_4 (m : MethodId) (y0 : Addr) : entryFrame m #[(.ref y0)] 1 = mkF m 0 #[.val (.ref y0)] [] := by first | (simp [entryFrame, mkF, argsToLocals, Value.category]; done) | rfl
set_option maxRecDepth 65536 in
set_option maxHeartbeats 40000000 in
theorem rm2_4 (l : Launch) (Z : State) (a0 : Array Value) (hw : ∀ d ∈ tables_1, d.before a0 Z = true) (ws : List Jvm.Cond) (a_CORRECT : Addr) (a_WARNING : Addr) (a_INCORRECT : Addr) (a_MISSING : Addr) (a_ABSENT : Addr) (a_CONFIRMED : Addr) (h0 : Heap) (n0 : Nat) (Z0 : n0 ≤ h0.size) (S_CORRECT : Sta Z h0 "com/example/fapiao_lens/fapiaolens/Status" "CORRECT" "Lcom/example/fapiao_lens/fapiaolens/Status;" (.ref a_CORRECT)) (E_CORRECT : Exa Z h0 a_CORRECT "com/example/fapiao_lens/fapiaolens/Status") (S_WARNING : Sta Z h0 "com/example/fapiao_lens/fapiaolens/Status" "WARNING" "Lcom/example/fapiao_lens/fapiaolens/Status;" (.ref a_WARNING)) (E_WARNING : Exa Z h0 a_WARNING "com/example/fapiao_lens/fapiaolens/Status") (S_INCORRECT : Sta Z h0 "com/example/fapiao_lens/fapiaolens/Status" "INCORRECT" "Lcom/example/fapiao_lens/fapiaolens/Status;" (.ref a_INCORRECT)) (E_INCORRECT : Exa Z h0 a_INCORRECT "com/example/fapiao_lens/fapiaolens/Status") (S_MISSING : Sta Z h0 "com/example/fapiao_lens/fapiaolens/Status" "MISSING" "Lcom/example/fapiao_lens/fapiaolens/Status;" (.ref a_MISSING)) (E_MISSING : Exa Z h0 a_MISSING "com/example/fapiao_lens/fapiaolens/Status") (S_ABSENT : Sta Z h0 "com/example/fapiao_lens/fapiaolens/Status" "ABSENT" "Lcom/example/fapiao_lens/fapiaolens/Status;" (.ref a_ABSENT)) (E_ABSENT : Exa Z h0 a_ABSENT "com/example/fapiao_lens/fapiaolens/Status") (S_CONFIRMED : Sta Z h0 "com/example/fapiao_lens/fapiaolens/Status" "CONFIRMED" "Lcom/example/fapiao_lens/fapiaolens/Status;" (.ref a_CONFIRMED)) (E_CONFIRMED : Exa Z h0 a_CONFIRMED "com/example/fapiao_lens/fapiaolens/Status") (F_MISSING_ordinal : Fld Z h0 a_MISSING "java/lang/Enum" "ordinal" "I" (.int (3 : Int32))) (F_CORRECT_ordinal : Fld Z h0 a_CORRECT "java/lang/Enum" "ordinal" "I" (.int (0 : Int32))) (F_ABSENT_ordinal : Fld Z h0 a_ABSENT "java/lang/Enum" "ordinal" "I" (.int (4 : Int32))) (F_CONFIRMED_ordinal : Fld Z h0 a_CONFIRMED "java/lang/Enum" "ordinal" "I" (.int (5 : Int32))) (F_INCORRECT_ordinal : Fld Z h0 a_INCORRECT "java/lang/Enum" "ordinal" "I" (.int (2 : Int32))) (F_WARNING_ordinal : Fld Z h0 a_WARNING "java/lang/Enum" "ordinal" "I" (.int (1 : Int32))) :
    MetFree l (⟨"com/example/fapiao_lens/fapiaolens/Status", "needsNoReview", "()Z"⟩ : MethodName) (head1 (Jvm.Cond.code (⟨"com/example/fapiao_lens/fapiaolens/Status", "needsNoReview", "()Z"⟩ : MethodName) prog_59_method_7_code 1 (some .boolean) :: ws) ({ frames := 0, cells := 0, slots := 0, locals := 0 } : Room)) (fun ar_ U => ar_ = #[(.ref a_ABSENT)] ∧ Z.Warmed39 U.vm ∧ U.heap = h0) (fun _ _ _ _ _ => True) (fun _ U o U' => ∃ v L, o = .returned v ∧ QP (.int (1 : Int32)) h0 n0 v U'.heap L ∧ FrameEnd U o U' L ({ frames := 0, cells := 0, slots := 0, locals := 0 } : Room).cells ({ frames := 0, cells := 0, slots := 0, locals := 0 } : Room).slots) := by
  refine MetFree.of_bodySF (plainFor_of_name own_pn0) hisR ?_
  intro p e s m args below meth c s₁ Bd hml0 hP hK
  obtain ⟨rfl, hZ, hh⟩ := hP
  have hx := Bd.exec
  have hby := Bd.bytes
  have hml : c.maxLocals = 1 := hml0
  have hown : s.vm.findClass "com/example/fapiao_lens/fapiaolens/Status" = some m.cls := findClass_of_methodNamed Bd.named
  have hnm := (name_of_methodNamed Bd.named Bd.method).1
  have X0 : Stand p l e ({ frames := 0, cells := 0, slots := 0, locals := 0 } : Room) s m #[(.ref a_ABSENT)] below meth c s₁ [] 0 0 := Stand.of_body Bd
  have e0 : s₁.heap = h0 := by rw [← hh, Bd.state]; rfl
  have N0 := Fr.nil n0
  have pre0 : ∀ t, Steps p.tables e below (s₁.setTop (mkF m 0 #[.val (.ref a_ABSENT)] [])) t → Steps p.tables e below (s₁.setTop (entryFrame m #[(.ref a_ABSENT)] 1)) t := fun t k => castTop (own_ef_rm2_4 m a_ABSENT) k
  obtain ⟨T1, X1, e1, st1⟩ := getS2 X0 hx hZ hown (host := "") (Or.inl (hw _ (List.mem_of_getElem? (i := 23) rfl))) Via.refl e0 S_CORRECT (g := (mkF m 1 #[.val (.ref a_ABSENT)] [(.ref a_ABSENT)])) rfl (hb hby own_d_prog_59_method_7_code_1)
  obtain ⟨T2, X2, e2, st2⟩ := getS2 X1 hx hZ hown (host := "") (Or.inl (hw _ (List.mem_of_getElem? (i := 24) rfl))) Via.refl e1 S_ABSENT (g := (mkF m 8 #[.val (.ref a_ABSENT)] [(.ref a_ABSENT)])) rfl (hb hby own_d_prog_59_method_7_code_8)
  have pre3 : ∀ t, Steps p.tables e below (T2.setTop (mkF m 26 #[.val (.ref a_ABSENT)] [(.int (1 : Int32))])) t → Steps p.tables e below (s₁.setTop (entryFrame m #[(.ref a_ABSENT)] 1)) t := fun t k => pre0 t (by
    show Steps p.tables e below (s₁.setTop (mkF m 0 #[.val (.ref a_ABSENT)] [])) _
    refine XS.aloadN X0.here hx rfl (hb hby own_d_prog_59_method_7_code_0) rfl rfl ?_
    show Steps p.tables e below (s₁.setTop (mkF m 1 #[.val (.ref a_ABSENT)] [(.ref a_ABSENT)])) _
    refine st1 _ ?_
    show Steps p.tables e below (T1.setTop (mkF m 4 #[.val (.ref a_ABSENT)] [(.ref a_CORRECT), (.ref a_ABSENT)])) _
    refine Jvm.RoadKit.acmp (g := (mkF m 4 #[.val (.ref a_ABSENT)] [(.ref a_CORRECT), (.ref a_ABSENT)])) X1 hx rfl rfl rfl (pc0 := 4) (pc' := 7) (same := false) rfl (hb hby own_d_prog_59_method_7_code_4) rfl (decide_eq_false fun q => ((Fld.ne F_ABSENT_ordinal F_CORRECT_ordinal (by decide)) : ¬ (a_ABSENT = a_CORRECT)) (Value.ref.inj q)) (by decide) (by decide) ?_
    show Steps p.tables e below (T1.setTop (mkF m 7 #[.val (.ref a_ABSENT)] [])) _
    refine XS.aloadN X1.here hx rfl (hb hby own_d_prog_59_method_7_code_7) rfl rfl ?_
    show Steps p.tables e below (T1.setTop (mkF m 8 #[.val (.ref a_ABSENT)] [(.ref a_ABSENT)])) _
    refine st2 _ ?_
    show Steps p.tables e below (T2.setTop (mkF m 11 #[.val (.ref a_ABSENT)] [(.ref a_ABSENT), (.ref a_ABSENT)])) _
    refine Jvm.RoadKit.acmp (g := (mkF m 11 #[.val (.ref a_ABSENT)] [(.ref a_ABSENT), (.ref a_ABSENT)])) X2 hx rfl rfl rfl (pc0 := 11) (pc' := 21) (same := true) rfl (hb hby own_d_prog_59_method_7_code_11) rfl (decide_eq_true (rfl)) (by decide) (by decide) ?_
    show Steps p.tables e below (T2.setTop (mkF m 21 #[.val (.ref a_ABSENT)] [])) _
    refine XS.iconst X2.here hx rfl (hb hby own_d_prog_59_method_7_code_21) ?_
    show Steps p.tables e below (T2.setTop (mkF m 22 #[.val (.ref a_ABSENT)] [(.int (1 : Int32))])) _
    refine XS.goto X2.here hx rfl (pc0 := 22) (pc' := 26) rfl (hb hby own_d_prog_59_method_7_code_22) (by decide) (by decide) ?_
    exact k)
  obtain ⟨fs, hr, hrun, hended, hW, hsame⟩ := X2.leave (v := some (.int (nar .boolean (1 : Int32)))) (fun h => by rw [Bd.returns] at h; cases h)
  refine ⟨_, _, pre3 _ ?_, hrun, hended, _, _, rfl, ?_, ⟨_, rfl⟩, hW, hsame.mono (by decide) (by decide)⟩
  · show Steps p.tables e below (T2.setTop (mkF m 26 #[.val (.ref a_ABSENT)] [(.int (1 : Int32))])) _
    exact retN X2 hx (t := .boolean) Bd.returns (by simp) (hb hby own_d_prog_59_method_7_code_26) hr
  · show QP (.int (1 : Int32)) h0 n0 _ T2.heap _
    rw [e2]
    exact ⟨rfl, N0, rfl⟩
theorem own_ef_rm2_5 (m : MethodId) (y0 : Addr) : entryFrame m #[(.ref y0)] 1 = mkF m 0 #[.val (.ref y0)] [] := by first | (simp [entryFrame, mkF, argsToLocals, Value.category]; done) | rfl
set_option maxRecDepth 65536 in
set_option maxHeartbeats 40000000 in
theorem rm2_5 (l : Launch) (Z : State) (a0 : Array Value) (hw : ∀ d ∈ tables_1, d.before a0 Z = true) (ws : List Jvm.Cond) (a_CORRECT : Addr) (a_WARNING : Addr) (a_INCORRECT : Addr) (a_MISSING : Addr) (a_ABSENT : Addr) (a_CONFIRMED : Addr) (h0 : Heap) (n0 : Nat) (Z0 : n0 ≤ h0.size) (S_CORRECT : Sta Z h0 "com/example/fapiao_lens/fapiaolens/Status" "CORRECT" "Lcom/example/fapiao_lens/fapiaolens/Status;" (.ref a_CORRECT)) (E_CORRECT : Exa Z h0 a_CORRECT "com/example/fapiao_lens/fapiaolens/Status") (S_WARNING : Sta Z h0 "com/example/fapiao_lens/fapiaolens/Status" "WARNING" "Lcom/example/fapiao_lens/fapiaolens/Status;" (.ref a_WARNING)) (E_WARNING : Exa Z h0 a_WARNING "com/example/fapiao_lens/fapiaolens/Status") (S_INCORRECT : Sta Z h0 "com/example/fapiao_lens/fapiaolens/Status" "INCORRECT" "Lcom/example/fapiao_lens/fapiaolens/Status;" (.ref a_INCORRECT)) (E_INCORRECT : Exa Z h0 a_INCORRECT "com/example/fapiao_lens/fapiaolens/Status") (S_MISSING : Sta Z h0 "com/example/fapiao_lens/fapiaolens/Status" "MISSING" "Lcom/example/fapiao_lens/fapiaolens/Status;" (.ref a_MISSING)) (E_MISSING : Exa Z h0 a_MISSING "com/example/fapiao_lens/fapiaolens/Status") (S_ABSENT : Sta Z h0 "com/example/fapiao_lens/fapiaolens/Status" "ABSENT" "Lcom/example/fapiao_lens/fapiaolens/Status;" (.ref a_ABSENT)) (E_ABSENT : Exa Z h0 a_ABSENT "com/example/fapiao_lens/fapiaolens/Status") (S_CONFIRMED : Sta Z h0 "com/example/fapiao_lens/fapiaolens/Status" "CONFIRMED" "Lcom/example/fapiao_lens/fapiaolens/Status;" (.ref a_CONFIRMED)) (E_CONFIRMED : Exa Z h0 a_CONFIRMED "com/example/fapiao_lens/fapiaolens/Status") (F_MISSING_ordinal : Fld Z h0 a_MISSING "java/lang/Enum" "ordinal" "I" (.int (3 : Int32))) (F_CORRECT_ordinal : Fld Z h0 a_CORRECT "java/lang/Enum" "ordinal" "I" (.int (0 : Int32))) (F_ABSENT_ordinal : Fld Z h0 a_ABSENT "java/lang/Enum" "ordinal" "I" (.int (4 : Int32))) (F_CONFIRMED_ordinal : Fld Z h0 a_CONFIRMED "java/lang/Enum" "ordinal" "I" (.int (5 : Int32))) (F_INCORRECT_ordinal : Fld Z h0 a_INCORRECT "java/lang/Enum" "ordinal" "I" (.int (2 : Int32))) (F_WARNING_ordinal : Fld Z h0 a_WARNING "java/lang/Enum" "ordinal" "I" (.int (1 : Int32))) :
    MetFree l (⟨"com/example/fapiao_lens/fapiaolens/Status", "needsNoReview", "()Z"⟩ : MethodName) (head1 (Jvm.Cond.code (⟨"com/example/fapiao_lens/fapiaolens/Status", "needsNoReview", "()Z"⟩ : MethodName) prog_59_method_7_code 1 (some .boolean) :: ws) ({ frames := 0, cells := 0, slots := 0, locals := 0 } : Room)) (fun ar_ U => ar_ = #[(.ref a_CONFIRMED)] ∧ Z.Warmed39 U.vm ∧ U.heap = h0) (fun _ _ _ _ _ => True) (fun _ U o U' => ∃ v L, o = .returned v ∧ QP (.int (1 : Int32)) h0 n0 v U'.heap L ∧ FrameEnd U o U' L ({ frames := 0, cells := 0, slots := 0, locals := 0 } : Room).cells ({ frames := 0, cells := 0, slots := 0, locals := 0 } : Room).slots) := by
  refine MetFree.of_bodySF (plainFor_of_name own_pn0) hisR ?_
  intro p e s m args below meth c s₁ Bd hml0 hP hK
  obtain ⟨rfl, hZ, hh⟩ := hP
  have hx := Bd.exec
  have hby := Bd.bytes
  have hml : c.maxLocals = 1 := hml0
  have hown : s.vm.findClass "com/example/fapiao_lens/fapiaolens/Status" = some m.cls := findClass_of_methodNamed Bd.named
  have hnm := (name_of_methodNamed Bd.named Bd.method).1
  have X0 : Stand p l e ({ frames := 0, cells := 0, slots := 0, locals := 0 } : Room) s m #[(.ref a_CONFIRMED)] below meth c s₁ [] 0 0 := Stand.of_body Bd
  have e0 : s₁.heap = h0 := by rw [← hh, Bd.state]; rfl
  have N0 := Fr.nil n0
  have pre0 : ∀ t, Steps p.tables e below (s₁.setTop (mkF m 0 #[.val (.ref a_CONFIRMED)] [])) t → Steps p.tables e below (s₁.setTop (entryFrame m #[(.ref a_CONFIRMED)] 1)) t := fun t k => castTop (own_ef_rm2_5 m a_CONFIRMED) k
  obtain ⟨T1, X1, e1, st1⟩ := getS2 X0 hx hZ hown (host := "") (Or.inl (hw _ (List.mem_of_getElem? (i := 23) rfl))) Via.refl e0 S_CORRECT (g := (mkF m 1 #[.val (.ref a_CONFIRMED)] [(.ref a_CONFIRMED)])) rfl (hb hby own_d_prog_59_method_7_code_1)
  obtain ⟨T2, X2, e2, st2⟩ := getS2 X1 hx hZ hown (host := "") (Or.inl (hw _ (List.mem_of_getElem? (i := 24) rfl))) Via.refl e1 S_ABSENT (g := (mkF m 8 #[.val (.ref a_CONFIRMED)] [(.ref a_CONFIRMED)])) rfl (hb hby own_d_prog_59_method_7_code_8)
  obtain ⟨T3, X3, e3, st3⟩ := getS2 X2 hx hZ hown (host := "") (Or.inl (hw _ (List.mem_of_getElem? (i := 25) rfl))) Via.refl e2 S_CONFIRMED (g := (mkF m 15 #[.val (.ref a_CONFIRMED)] [(.ref a_CONFIRMED)])) rfl (hb hby own_d_prog_59_method_7_code_15)
  have pre4 : ∀ t, Steps p.tables e below (T3.setTop (mkF m 26 #[.val (.ref a_CONFIRMED)] [(.int (1 : Int32))])) t → Steps p.tables e below (s₁.setTop (entryFrame m #[(.ref a_CONFIRMED)] 1)) t := fun t k => pre0 t (by
    show Steps p.tables e below (s₁.setTop (mkF m 0 #[.val (.ref a_CONFIRMED)] [])) _
    refine XS.aloadN X0.here hx rfl (hb hby own_d_prog_59_method_7_code_0) rfl rfl ?_
    show Steps p.tables e below (s₁.setTop (mkF m 1 #[.val (.ref a_CONFIRMED)] [(.ref a_CONFIRMED)])) _
    refine st1 _ ?_
    show Steps p.tables e below (T1.setTop (mkF m 4 #[.val (.ref a_CONFIRMED)] [(.ref a_CORRECT), (.ref a_CONFIRMED)])) _
    refine Jvm.RoadKit.acmp (g := (mkF m 4 #[.val (.ref a_CONFIRMED)] [(.ref a_CORRECT), (.ref a_CONFIRMED)])) X1 hx rfl rfl rfl (pc0 := 4) (pc' := 7) (same := false) rfl (hb hby own_d_prog_59_method_7_code_4) rfl (decide_eq_false fun q => ((Fld.ne F_CONFIRMED_ordinal F_CORRECT_ordinal (by decide)) : ¬ (a_CONFIRMED = a_CORRECT)) (Value.ref.inj q)) (by decide) (by decide) ?_
    show Steps p.tables e below (T1.setTop (mkF m 7 #[.val (.ref a_CONFIRMED)] [])) _
    refine XS.aloadN X1.here hx rfl (hb hby own_d_prog_59_method_7_code_7) rfl rfl ?_
    show Steps p.tables e below (T1.setTop (mkF m 8 #[.val (.ref a_CONFIRMED)] [(.ref a_CONFIRMED)])) _
    refine st2 _ ?_
    show Steps p.tables e below (T2.setTop (mkF m 11 #[.val (.ref a_CONFIRMED)] [(.ref a_ABSENT), (.ref a_CONFIRMED)])) _
    refine Jvm.RoadKit.acmp (g := (mkF m 11 #[.val (.ref a_CONFIRMED)] [(.ref a_ABSENT), (.ref a_CONFIRMED)])) X2 hx rfl rfl rfl (pc0 := 11) (pc' := 14) (same := false) rfl (hb hby own_d_prog_59_method_7_code_11) rfl (decide_eq_false fun q => ((Fld.ne F_CONFIRMED_ordinal F_ABSENT_ordinal (by decide)) : ¬ (a_CONFIRMED = a_ABSENT)) (Value.ref.inj q)) (by decide) (by decide) ?_
    show Steps p.tables e below (T2.setTop (mkF m 14 #[.val (.ref a_CONFIRMED)] [])) _
    refine XS.aloadN X2.here hx rfl (hb hby own_d_prog_59_method_7_code_14) rfl rfl ?_
    show Steps p.tables e below (T2.setTop (mkF m 15 #[.val (.ref a_CONFIRMED)] [(.ref a_CONFIRMED)])) _
    refine st3 _ ?_
    show Steps p.tables e below (T3.setTop (mkF m 18 #[.val (.ref a_CONFIRMED)] [(.ref a_CONFIRMED), (.ref a_CONFIRMED)])) _
    refine Jvm.RoadKit.acmp (g := (mkF m 18 #[.val (.ref a_CONFIRMED)] [(.ref a_CONFIRMED), (.ref a_CONFIRMED)])) X3 hx rfl rfl rfl (pc0 := 18) (pc' := 21) (same := true) rfl (hb hby own_d_prog_59_method_7_code_18) rfl (decide_eq_true (rfl)) (by decide) (by decide) ?_
    show Steps p.tables e below (T3.setTop (mkF m 21 #[.val (.ref a_CONFIRMED)] [])) _
    refine XS.iconst X3.here hx rfl (hb hby own_d_prog_59_method_7_code_21) ?_
    show Steps p.tables e below (T3.setTop (mkF m 22 #[.val (.ref a_CONFIRMED)] [(.int (1 : Int32))])) _
    refine XS.goto X3.here hx rfl (pc0 := 22) (pc' := 26) rfl (hb hby own_d_prog_59_method_7_code_22) (by decide) (by decide) ?_
    exact k)
  obtain ⟨fs, hr, hrun, hended, hW, hsame⟩ := X3.leave (v := some (.int (nar .boolean (1 : Int32)))) (fun h => by rw [Bd.returns] at h; cases h)
  refine ⟨_, _, pre4 _ ?_, hrun, hended, _, _, rfl, ?_, ⟨_, rfl⟩, hW, hsame.mono (by decide) (by decide)⟩
  · show Steps p.tables e below (T3.setTop (mkF m 26 #[.val (.ref a_CONFIRMED)] [(.int (1 : Int32))])) _
    exact retN X3 hx (t := .boolean) Bd.returns (by simp) (hb hby own_d_prog_59_method_7_code_26) hr
  · show QP (.int (1 : Int32)) h0 n0 _ T3.heap _
    rw [e3]
    exact ⟨rfl, N0, rfl⟩
theorem own_ef_rm0 (m : MethodId) (y0 : Int32) : entryFrame m #[(.int y0)] maxLocals = mkF m 0 #[.val (.int y0), .unset, .unset, .unset, .unset] [] := by first | (simp [entryFrame, mkF, argsToLocals, Value.category, maxLocals]; done) | rfl
set_option maxRecDepth 65536 in
set_option maxHeartbeats 40000000 in
theorem rm0 (l : Launch) (Z : State) (a0 : Array Value) (hw : ∀ d ∈ tables_1, d.before a0 Z = true) (ws : List Jvm.Cond) (p1 : Int32) (a_CORRECT : Addr) (a_WARNING : Addr) (a_INCORRECT : Addr) (a_MISSING : Addr) (a_ABSENT : Addr) (a_CONFIRMED : Addr) (h0 : Heap) (n0 : Nat) (Z0 : n0 ≤ h0.size) (S_CORRECT : Sta Z h0 "com/example/fapiao_lens/fapiaolens/Status" "CORRECT" "Lcom/example/fapiao_lens/fapiaolens/Status;" (.ref a_CORRECT)) (E_CORRECT : Exa Z h0 a_CORRECT "com/example/fapiao_lens/fapiaolens/Status") (S_WARNING : Sta Z h0 "com/example/fapiao_lens/fapiaolens/Status" "WARNING" "Lcom/example/fapiao_lens/fapiaolens/Status;" (.ref a_WARNING)) (E_WARNING : Exa Z h0 a_WARNING "com/example/fapiao_lens/fapiaolens/Status") (S_INCORRECT : Sta Z h0 "com/example/fapiao_lens/fapiaolens/Status" "INCORRECT" "Lcom/example/fapiao_lens/fapiaolens/Status;" (.ref a_INCORRECT)) (E_INCORRECT : Exa Z h0 a_INCORRECT "com/example/fapiao_lens/fapiaolens/Status") (S_MISSING : Sta Z h0 "com/example/fapiao_lens/fapiaolens/Status" "MISSING" "Lcom/example/fapiao_lens/fapiaolens/Status;" (.ref a_MISSING)) (E_MISSING : Exa Z h0 a_MISSING "com/example/fapiao_lens/fapiaolens/Status") (S_ABSENT : Sta Z h0 "com/example/fapiao_lens/fapiaolens/Status" "ABSENT" "Lcom/example/fapiao_lens/fapiaolens/Status;" (.ref a_ABSENT)) (E_ABSENT : Exa Z h0 a_ABSENT "com/example/fapiao_lens/fapiaolens/Status") (S_CONFIRMED : Sta Z h0 "com/example/fapiao_lens/fapiaolens/Status" "CONFIRMED" "Lcom/example/fapiao_lens/fapiaolens/Status;" (.ref a_CONFIRMED)) (E_CONFIRMED : Exa Z h0 a_CONFIRMED "com/example/fapiao_lens/fapiaolens/Status") (F_MISSING_ordinal : Fld Z h0 a_MISSING "java/lang/Enum" "ordinal" "I" (.int (3 : Int32))) (F_CORRECT_ordinal : Fld Z h0 a_CORRECT "java/lang/Enum" "ordinal" "I" (.int (0 : Int32))) (F_ABSENT_ordinal : Fld Z h0 a_ABSENT "java/lang/Enum" "ordinal" "I" (.int (4 : Int32))) (F_CONFIRMED_ordinal : Fld Z h0 a_CONFIRMED "java/lang/Enum" "ordinal" "I" (.int (5 : Int32))) (F_INCORRECT_ordinal : Fld Z h0 a_INCORRECT "java/lang/Enum" "ordinal" "I" (.int (2 : Int32))) (F_WARNING_ordinal : Fld Z h0 a_WARNING "java/lang/Enum" "ordinal" "I" (.int (1 : Int32))) :
    MetFree l x (head1 (Jvm.Cond.code x code maxLocals ret :: ws) room_1) (fun ar_ U => ar_ = #[(.int p1)] ∧ Z.Warmed39 U.vm ∧ U.heap = h0) (fun _ _ _ _ _ => True) (fun _ U o U' => ∃ v L, o = .returned v ∧ QL n0 v U'.heap L ∧ FrameEnd U o U' L 2 12) := by
  refine MetFree.of_bodySF (plainFor_of_name own_pn1) hisR ?_
  intro p e s m args below meth c s₁ Bd hml0 hP hK
  obtain ⟨rfl, hZ, hh⟩ := hP
  have hx := Bd.exec
  have hby := Bd.bytes
  have hml : c.maxLocals = 5 := hml0
  have hown : s.vm.findClass "com/example/fapiao_lens/fapiaolens/StatusNeedsNoReviewPinLaw" = some m.cls := findClass_of_methodNamed Bd.named
  have hnm := (name_of_methodNamed Bd.named Bd.method).1
  have X0 : Stand p l e room_1 s m #[(.int p1)] below meth c s₁ [] 0 0 := Stand.of_body Bd
  have e0 : s₁.heap = h0 := by rw [← hh, Bd.state]; rfl
  have N0 := Fr.nil n0
  have pre0 : ∀ t, Steps p.tables e below (s₁.setTop (mkF m 0 #[.val (.int p1), .unset, .unset, .unset, .unset] [])) t → Steps p.tables e below (s₁.setTop (entryFrame m #[(.int p1)] maxLocals)) t := fun t k => castTop (own_ef_rm0 m p1) k
  have hk := own_k p1
  have pre1 : ∀ t, Steps p.tables e below (s₁.setTop (mkF m 7 #[.val (.int p1), .unset, .unset, .unset, .unset] [(.int ((p1 &&& (2147483647 : Int32)) % (6 : Int32)))])) t → Steps p.tables e below (s₁.setTop (entryFrame m #[(.int p1)] maxLocals)) t := fun t k => pre0 t (by
    show Steps p.tables e below (s₁.setTop (mkF m 0 #[.val (.int p1), .unset, .unset, .unset, .unset] [])) _
    refine XS.iloadN X0.here hx rfl (hb hby at_0) rfl ?_
    show Steps p.tables e below (s₁.setTop (mkF m 1 #[.val (.int p1), .unset, .unset, .unset, .unset] [(.int p1)])) _
    refine X0.ldcInt hx hown (mvT hZ (hw _ (List.mem_of_getElem? (i := 0) rfl))) (g := (mkF m 1 #[.val (.int p1), .unset, .unset, .unset, .unset] [(.int p1)])) rfl (hb hby at_1) _ ?_
    show Steps p.tables e below (s₁.setTop (mkF m 3 #[.val (.int p1), .unset, .unset, .unset, .unset] [(.int (2147483647 : Int32)), (.int p1)])) _
    refine XS.iand X0.here hx rfl (hb hby at_3) rfl ?_
    show Steps p.tables e below (s₁.setTop (mkF m 4 #[.val (.int p1), .unset, .unset, .unset, .unset] [(.int (p1 &&& (2147483647 : Int32)))])) _
    refine XS.bipush X0.here hx rfl (hb hby at_4) ?_
    show Steps p.tables e below (s₁.setTop (mkF m 6 #[.val (.int p1), .unset, .unset, .unset, .unset] [(.int (6 : Int32)), (.int (p1 &&& (2147483647 : Int32)))])) _
    refine iremM X0 hx rfl (hb hby at_6) rfl (by decide) ?_
    exact k)
  obtain ⟨k0, h_k0⟩ : ∃ z : Int32, z = ((p1 &&& (2147483647 : Int32)) % (6 : Int32)) := ⟨_, rfl⟩
  rw [← h_k0] at pre1
  rw [← h_k0] at hk
  obtain ⟨T2, h2, k2, X2, e2, E2, A2, O2, st2⟩ := newR X0 hx hZ hown (hw _ (List.mem_of_getElem? (i := 1) rfl)) (hw _ (List.mem_of_getElem? (i := 2) rfl)) e0 (g := (mkF m 10 #[.val (.int p1), .val (.int k0), .unset, .unset, .unset] [(.int (6 : Int32))])) rfl (hb hby at_10) rfl (by decide) (cap := 6) (by decide) (by decide) (by decide) (by decide)
  obtain ⟨b2, g2⟩ : ∃ z, z = h0.size := ⟨_, rfl⟩
  rw [← g2] at A2 st2
  have ne_a_CORRECT_b2 : a_CORRECT ≠ b2 := Nat.ne_of_lt (Nat.lt_of_lt_of_le (E_CORRECT).lt (Nat.le_of_eq g2.symm))
  have ne_a_WARNING_b2 : a_WARNING ≠ b2 := Nat.ne_of_lt (Nat.lt_of_lt_of_le (E_WARNING).lt (Nat.le_of_eq g2.symm))
  have ne_a_INCORRECT_b2 : a_INCORRECT ≠ b2 := Nat.ne_of_lt (Nat.lt_of_lt_of_le (E_INCORRECT).lt (Nat.le_of_eq g2.symm))
  have ne_a_MISSING_b2 : a_MISSING ≠ b2 := Nat.ne_of_lt (Nat.lt_of_lt_of_le (E_MISSING).lt (Nat.le_of_eq g2.symm))
  have ne_a_ABSENT_b2 : a_ABSENT ≠ b2 := Nat.ne_of_lt (Nat.lt_of_lt_of_le (E_ABSENT).lt (Nat.le_of_eq g2.symm))
  have ne_a_CONFIRMED_b2 : a_CONFIRMED ≠ b2 := Nat.ne_of_lt (Nat.lt_of_lt_of_le (E_CONFIRMED).lt (Nat.le_of_eq g2.symm))
  have g_b2 : n0 ≤ b2 := Nat.le_trans Z0 (Nat.le_of_eq g2.symm)
  have F2_0 := F_MISSING_ordinal.ext E2
  have F2_1 := F_CORRECT_ordinal.ext E2
  have F2_2 := F_ABSENT_ordinal.ext E2
  have F2_3 := F_CONFIRMED_ordinal.ext E2
  have F2_4 := F_INCORRECT_ordinal.ext E2
  have F2_5 := F_WARNING_ordinal.ext E2
  have X2_0 := E_CORRECT.ext E2
  have X2_1 := E_WARNING.ext E2
  have X2_2 := E_INCORRECT.ext E2
  have X2_3 := E_MISSING.ext E2
  have X2_4 := E_ABSENT.ext E2
  have X2_5 := E_CONFIRMED.ext E2
  have S2_0 := S_CORRECT.ext E2
  have S2_1 := S_WARNING.ext E2
  have S2_2 := S_INCORRECT.ext E2
  have S2_3 := S_MISSING.ext E2
  have S2_4 := S_ABSENT.ext E2
  have S2_5 := S_CONFIRMED.ext E2
  have z2 : n0 ≤ h2.size := Nat.le_trans Z0 E2.1
  have V_b2 : Arv Z h2 b2 k2 (.object "com/example/fapiao_lens/fapiaolens/Status") (6 : Int32) [.null, .null, .null, .null, .null, .null] .null := (Arv.new A2 (by decide)).pad (pad_rep [] .null 6)
  obtain ⟨T3, X3, e3, st3⟩ := getS2 X2 hx hZ hown (host := "") (Or.inl (hw _ (List.mem_of_getElem? (i := 3) rfl))) Via.refl e2 S2_0 (g := (mkF m 15 #[.val (.int p1), .val (.int k0), .unset, .unset, .unset] [(.int (0 : Int32)), (.ref b2), (.ref b2)])) rfl (hb hby at_15)
  obtain ⟨cl4, Ar4, q4, S4, M4, H4, G4⟩ := id V_b2
  have hin4 : ¬ ((0 : Int32) < 0 ∨ cl4.slots.size ≤ ((0 : Int32)).toNatClampNeg) := inb_of S4 ⟨by decide, by decide⟩
  obtain ⟨T5, h5, X5, e5, W5, st5⟩ := stR X3 hx hZ e3 Ar4 (j := (0 : Int32)) hin4 rfl (Sto.ofV Ar4 q4 O2 (Ins.self X2_0)) (g := (mkF m 18 #[.val (.int p1), .val (.int k0), .unset, .unset, .unset] [(.ref a_CORRECT), (.int (0 : Int32)), (.ref b2), (.ref b2)])) rfl rfl (hb hby at_18)
  have V_b2_5 : Arv Z h5 b2 k2 (.object "com/example/fapiao_lens/fapiaolens/Status") (6 : Int32) [(.ref a_CORRECT), .null, .null, .null, .null, .null] .null := Arv.set Ar4 q4 S4 M4 H4 G4 rfl W5 0 rfl (Nat.le_of_ble_eq_true rfl)
  have F5_0 := F2_0.other W5 (Or.inl ne_a_MISSING_b2)
  have F5_1 := F2_1.other W5 (Or.inl ne_a_CORRECT_b2)
  have F5_2 := F2_2.other W5 (Or.inl ne_a_ABSENT_b2)
  have F5_3 := F2_3.other W5 (Or.inl ne_a_CONFIRMED_b2)
  have F5_4 := F2_4.other W5 (Or.inl ne_a_INCORRECT_b2)
  have F5_5 := F2_5.other W5 (Or.inl ne_a_WARNING_b2)
  have X5_0 := X2_0.wr W5
  have X5_1 := X2_1.wr W5
  have X5_2 := X2_2.wr W5
  have X5_3 := X2_3.wr W5
  have X5_4 := X2_4.wr W5
  have X5_5 := X2_5.wr W5
  have S5_0 := S2_0.wr W5
  have S5_1 := S2_1.wr W5
  have S5_2 := S2_2.wr W5
  have S5_3 := S2_3.wr W5
  have S5_4 := S2_4.wr W5
  have S5_5 := S2_5.wr W5
  have z5 : n0 ≤ h5.size := by rw [W5.size]; exact z2
  have N5 := Fr.snoc X5 N0 g_b2
  obtain ⟨T6, X6, e6, st6⟩ := getS2 X5 hx hZ hown (host := "") (Or.inl (hw _ (List.mem_of_getElem? (i := 7) rfl))) Via.refl e5 S5_1 (g := (mkF m 21 #[.val (.int p1), .val (.int k0), .unset, .unset, .unset] [(.int (1 : Int32)), (.ref b2), (.ref b2)])) rfl (hb hby at_21)
  obtain ⟨cl7, Ar7, q7, S7, M7, H7, G7⟩ := id V_b2_5
  have hin7 : ¬ ((1 : Int32) < 0 ∨ cl7.slots.size ≤ ((1 : Int32)).toNatClampNeg) := inb_of S7 ⟨by decide, by decide⟩
  obtain ⟨T8, h8, X8, e8, W8, st8⟩ := stR X6 hx hZ e6 Ar7 (j := (1 : Int32)) hin7 rfl (Sto.ofV Ar7 q7 O2 (Ins.self X5_1)) (g := (mkF m 24 #[.val (.int p1), .val (.int k0), .unset, .unset, .unset] [(.ref a_WARNING), (.int (1 : Int32)), (.ref b2), (.ref b2)])) rfl rfl (hb hby at_24)
  have V_b2_8 : Arv Z h8 b2 k2 (.object "com/example/fapiao_lens/fapiaolens/Status") (6 : Int32) [(.ref a_CORRECT), (.ref a_WARNING), .null, .null, .null, .null] .null := Arv.set Ar7 q7 S7 M7 H7 G7 rfl W8 1 rfl (Nat.le_of_ble_eq_true rfl)
  have F8_0 := F5_0.other W8 (Or.inl ne_a_MISSING_b2)
  have F8_1 := F5_1.other W8 (Or.inl ne_a_CORRECT_b2)
  have F8_2 := F5_2.other W8 (Or.inl ne_a_ABSENT_b2)
  have F8_3 := F5_3.other W8 (Or.inl ne_a_CONFIRMED_b2)
  have F8_4 := F5_4.other W8 (Or.inl ne_a_INCORRECT_b2)
  have F8_5 := F5_5.other W8 (Or.inl ne_a_WARNING_b2)
  have X8_0 := X5_0.wr W8
  have X8_1 := X5_1.wr W8
  have X8_2 := X5_2.wr W8
  have X8_3 := X5_3.wr W8
  have X8_4 := X5_4.wr W8
  have X8_5 := X5_5.wr W8
  have S8_0 := S5_0.wr W8
  have S8_1 := S5_1.wr W8
  have S8_2 := S5_2.wr W8
  have S8_3 := S5_3.wr W8
  have S8_4 := S5_4.wr W8
  have S8_5 := S5_5.wr W8
  have z8 : n0 ≤ h8.size := by rw [W8.size]; exact z5
  have N8 := Fr.snoc X8 N5 g_b2
  obtain ⟨T9, X9, e9, st9⟩ := getS2 X8 hx hZ hown (host := "") (Or.inl (hw _ (List.mem_of_getElem? (i := 9) rfl))) Via.refl e8 S8_2 (g := (mkF m 27 #[.val (.int p1), .val (.int k0), .unset, .unset, .unset] [(.int (2 : Int32)), (.ref b2), (.ref b2)])) rfl (hb hby at_27)
  obtain ⟨cl10, Ar10, q10, S10, M10, H10, G10⟩ := id V_b2_8
  have hin10 : ¬ ((2 : Int32) < 0 ∨ cl10.slots.size ≤ ((2 : Int32)).toNatClampNeg) := inb_of S10 ⟨by decide, by decide⟩
  obtain ⟨T11, h11, X11, e11, W11, st11⟩ := stR X9 hx hZ e9 Ar10 (j := (2 : Int32)) hin10 rfl (Sto.ofV Ar10 q10 O2 (Ins.self X8_2)) (g := (mkF m 30 #[.val (.int p1), .val (.int k0), .unset, .unset, .unset] [(.ref a_INCORRECT), (.int (2 : Int32)), (.ref b2), (.ref b2)])) rfl rfl (hb hby at_30)
  have V_b2_11 : Arv Z h11 b2 k2 (.object "com/example/fapiao_lens/fapiaolens/Status") (6 : Int32) [(.ref a_CORRECT), (.ref a_WARNING), (.ref a_INCORRECT), .null, .null, .null] .null := Arv.set Ar10 q10 S10 M10 H10 G10 rfl W11 2 rfl (Nat.le_of_ble_eq_true rfl)
  have F11_0 := F8_0.other W11 (Or.inl ne_a_MISSING_b2)
  have F11_1 := F8_1.other W11 (Or.inl ne_a_CORRECT_b2)
  have F11_2 := F8_2.other W11 (Or.inl ne_a_ABSENT_b2)
  have F11_3 := F8_3.other W11 (Or.inl ne_a_CONFIRMED_b2)
  have F11_4 := F8_4.other W11 (Or.inl ne_a_INCORRECT_b2)
  have F11_5 := F8_5.other W11 (Or.inl ne_a_WARNING_b2)
  have X11_0 := X8_0.wr W11
  have X11_1 := X8_1.wr W11
  have X11_2 := X8_2.wr W11
  have X11_3 := X8_3.wr W11
  have X11_4 := X8_4.wr W11
  have X11_5 := X8_5.wr W11
  have S11_0 := S8_0.wr W11
  have S11_1 := S8_1.wr W11
  have S11_2 := S8_2.wr W11
  have S11_3 := S8_3.wr W11
  have S11_4 := S8_4.wr W11
  have S11_5 := S8_5.wr W11
  have z11 : n0 ≤ h11.size := by rw [W11.size]; exact z8
  have N11 := Fr.snoc X11 N8 g_b2
  obtain ⟨T12, X12, e12, st12⟩ := getS2 X11 hx hZ hown (host := "") (Or.inl (hw _ (List.mem_of_getElem? (i := 11) rfl))) Via.refl e11 S11_3 (g := (mkF m 33 #[.val (.int p1), .val (.int k0), .unset, .unset, .unset] [(.int (3 : Int32)), (.ref b2), (.ref b2)])) rfl (hb hby at_33)
  obtain ⟨cl13, Ar13, q13, S13, M13, H13, G13⟩ := id V_b2_11
  have hin13 : ¬ ((3 : Int32) < 0 ∨ cl13.slots.size ≤ ((3 : Int32)).toNatClampNeg) := inb_of S13 ⟨by decide, by decide⟩
  obtain ⟨T14, h14, X14, e14, W14, st14⟩ := stR X12 hx hZ e12 Ar13 (j := (3 : Int32)) hin13 rfl (Sto.ofV Ar13 q13 O2 (Ins.self X11_3)) (g := (mkF m 36 #[.val (.int p1), .val (.int k0), .unset, .unset, .unset] [(.ref a_MISSING), (.int (3 : Int32)), (.ref b2), (.ref b2)])) rfl rfl (hb hby at_36)
  have V_b2_14 : Arv Z h14 b2 k2 (.object "com/example/fapiao_lens/fapiaolens/Status") (6 : Int32) [(.ref a_CORRECT), (.ref a_WARNING), (.ref a_INCORRECT), (.ref a_MISSING), .null, .null] .null := Arv.set Ar13 q13 S13 M13 H13 G13 rfl W14 3 rfl (Nat.le_of_ble_eq_true rfl)
  have F14_0 := F11_0.other W14 (Or.inl ne_a_MISSING_b2)
  have F14_1 := F11_1.other W14 (Or.inl ne_a_CORRECT_b2)
  have F14_2 := F11_2.other W14 (Or.inl ne_a_ABSENT_b2)
  have F14_3 := F11_3.other W14 (Or.inl ne_a_CONFIRMED_b2)
  have F14_4 := F11_4.other W14 (Or.inl ne_a_INCORRECT_b2)
  have F14_5 := F11_5.other W14 (Or.inl ne_a_WARNING_b2)
  have X14_0 := X11_0.wr W14
  have X14_1 := X11_1.wr W14
  have X14_2 := X11_2.wr W14
  have X14_3 := X11_3.wr W14
  have X14_4 := X11_4.wr W14
  have X14_5 := X11_5.wr W14
  have S14_0 := S11_0.wr W14
  have S14_1 := S11_1.wr W14
  have S14_2 := S11_2.wr W14
  have S14_3 := S11_3.wr W14
  have S14_4 := S11_4.wr W14
  have S14_5 := S11_5.wr W14
  have z14 : n0 ≤ h14.size := by rw [W14.size]; exact z11
  have N14 := Fr.snoc X14 N11 g_b2
  obtain ⟨T15, X15, e15, st15⟩ := getS2 X14 hx hZ hown (host := "") (Or.inl (hw _ (List.mem_of_getElem? (i := 13) rfl))) Via.refl e14 S14_4 (g := (mkF m 39 #[.val (.int p1), .val (.int k0), .unset, .unset, .unset] [(.int (4 : Int32)), (.ref b2), (.ref b2)])) rfl (hb hby at_39)
  obtain ⟨cl16, Ar16, q16, S16, M16, H16, G16⟩ := id V_b2_14
  have hin16 : ¬ ((4 : Int32) < 0 ∨ cl16.slots.size ≤ ((4 : Int32)).toNatClampNeg) := inb_of S16 ⟨by decide, by decide⟩
  obtain ⟨T17, h17, X17, e17, W17, st17⟩ := stR X15 hx hZ e15 Ar16 (j := (4 : Int32)) hin16 rfl (Sto.ofV Ar16 q16 O2 (Ins.self X14_4)) (g := (mkF m 42 #[.val (.int p1), .val (.int k0), .unset, .unset, .unset] [(.ref a_ABSENT), (.int (4 : Int32)), (.ref b2), (.ref b2)])) rfl rfl (hb hby at_42)
  have V_b2_17 : Arv Z h17 b2 k2 (.object "com/example/fapiao_lens/fapiaolens/Status") (6 : Int32) [(.ref a_CORRECT), (.ref a_WARNING), (.ref a_INCORRECT), (.ref a_MISSING), (.ref a_ABSENT), .null] .null := Arv.set Ar16 q16 S16 M16 H16 G16 rfl W17 4 rfl (Nat.le_of_ble_eq_true rfl)
  have F17_0 := F14_0.other W17 (Or.inl ne_a_MISSING_b2)
  have F17_1 := F14_1.other W17 (Or.inl ne_a_CORRECT_b2)
  have F17_2 := F14_2.other W17 (Or.inl ne_a_ABSENT_b2)
  have F17_3 := F14_3.other W17 (Or.inl ne_a_CONFIRMED_b2)
  have F17_4 := F14_4.other W17 (Or.inl ne_a_INCORRECT_b2)
  have F17_5 := F14_5.other W17 (Or.inl ne_a_WARNING_b2)
  have X17_0 := X14_0.wr W17
  have X17_1 := X14_1.wr W17
  have X17_2 := X14_2.wr W17
  have X17_3 := X14_3.wr W17
  have X17_4 := X14_4.wr W17
  have X17_5 := X14_5.wr W17
  have S17_0 := S14_0.wr W17
  have S17_1 := S14_1.wr W17
  have S17_2 := S14_2.wr W17
  have S17_3 := S14_3.wr W17
  have S17_4 := S14_4.wr W17
  have S17_5 := S14_5.wr W17
  have z17 : n0 ≤ h17.size := by rw [W17.size]; exact z14
  have N17 := Fr.snoc X17 N14 g_b2
  obtain ⟨T18, X18, e18, st18⟩ := getS2 X17 hx hZ hown (host := "") (Or.inl (hw _ (List.mem_of_getElem? (i := 15) rfl))) Via.refl e17 S17_5 (g := (mkF m 45 #[.val (.int p1), .val (.int k0), .unset, .unset, .unset] [(.int (5 : Int32)), (.ref b2), (.ref b2)])) rfl (hb hby at_45)
  obtain ⟨cl19, Ar19, q19, S19, M19, H19, G19⟩ := id V_b2_17
  have hin19 : ¬ ((5 : Int32) < 0 ∨ cl19.slots.size ≤ ((5 : Int32)).toNatClampNeg) := inb_of S19 ⟨by decide, by decide⟩
  obtain ⟨T20, h20, X20, e20, W20, st20⟩ := stR X18 hx hZ e18 Ar19 (j := (5 : Int32)) hin19 rfl (Sto.ofV Ar19 q19 O2 (Ins.self X17_5)) (g := (mkF m 48 #[.val (.int p1), .val (.int k0), .unset, .unset, .unset] [(.ref a_CONFIRMED), (.int (5 : Int32)), (.ref b2), (.ref b2)])) rfl rfl (hb hby at_48)
  have V_b2_20 : Arv Z h20 b2 k2 (.object "com/example/fapiao_lens/fapiaolens/Status") (6 : Int32) [(.ref a_CORRECT), (.ref a_WARNING), (.ref a_INCORRECT), (.ref a_MISSING), (.ref a_ABSENT), (.ref a_CONFIRMED)] .null := Arv.set Ar19 q19 S19 M19 H19 G19 rfl W20 5 rfl (Nat.le_of_ble_eq_true rfl)
  have F20_0 := F17_0.other W20 (Or.inl ne_a_MISSING_b2)
  have F20_1 := F17_1.other W20 (Or.inl ne_a_CORRECT_b2)
  have F20_2 := F17_2.other W20 (Or.inl ne_a_ABSENT_b2)
  have F20_3 := F17_3.other W20 (Or.inl ne_a_CONFIRMED_b2)
  have F20_4 := F17_4.other W20 (Or.inl ne_a_INCORRECT_b2)
  have F20_5 := F17_5.other W20 (Or.inl ne_a_WARNING_b2)
  have X20_0 := X17_0.wr W20
  have X20_1 := X17_1.wr W20
  have X20_2 := X17_2.wr W20
  have X20_3 := X17_3.wr W20
  have X20_4 := X17_4.wr W20
  have X20_5 := X17_5.wr W20
  have S20_0 := S17_0.wr W20
  have S20_1 := S17_1.wr W20
  have S20_2 := S17_2.wr W20
  have S20_3 := S17_3.wr W20
  have S20_4 := S17_4.wr W20
  have S20_5 := S17_5.wr W20
  have z20 : n0 ≤ h20.size := by rw [W20.size]; exact z17
  have N20 := Fr.snoc X20 N17 g_b2
  obtain ⟨T21, h21, k21, X21, e21, E21, A21, st21⟩ := newP X20 hx hZ (hw _ (List.mem_of_getElem? (i := 17) rfl)) e20 (g := (mkF m 52 #[.val (.int p1), .val (.int k0), .val (.ref b2), .unset, .unset] [(.int (6 : Int32))])) rfl (hb hby at_52) rfl (by decide) (cap := 6) (by decide) (by decide) (by decide) (by decide)
  obtain ⟨b21, g21⟩ : ∃ z, z = h20.size := ⟨_, rfl⟩
  rw [← g21] at A21 st21
  have ne_a_CORRECT_b21 : a_CORRECT ≠ b21 := Nat.ne_of_lt (Nat.lt_of_lt_of_le (X20_0).lt (Nat.le_of_eq g21.symm))
  have ne_a_WARNING_b21 : a_WARNING ≠ b21 := Nat.ne_of_lt (Nat.lt_of_lt_of_le (X20_1).lt (Nat.le_of_eq g21.symm))
  have ne_a_INCORRECT_b21 : a_INCORRECT ≠ b21 := Nat.ne_of_lt (Nat.lt_of_lt_of_le (X20_2).lt (Nat.le_of_eq g21.symm))
  have ne_a_MISSING_b21 : a_MISSING ≠ b21 := Nat.ne_of_lt (Nat.lt_of_lt_of_le (X20_3).lt (Nat.le_of_eq g21.symm))
  have ne_a_ABSENT_b21 : a_ABSENT ≠ b21 := Nat.ne_of_lt (Nat.lt_of_lt_of_le (X20_4).lt (Nat.le_of_eq g21.symm))
  have ne_a_CONFIRMED_b21 : a_CONFIRMED ≠ b21 := Nat.ne_of_lt (Nat.lt_of_lt_of_le (X20_5).lt (Nat.le_of_eq g21.symm))
  have ne_b2_b21 : b2 ≠ b21 := Nat.ne_of_lt (Nat.lt_of_lt_of_le (V_b2_20).lt (Nat.le_of_eq g21.symm))
  have g_b21 : n0 ≤ b21 := Nat.le_trans z20 (Nat.le_of_eq g21.symm)
  have F21_0 := F20_0.ext E21
  have F21_1 := F20_1.ext E21
  have F21_2 := F20_2.ext E21
  have F21_3 := F20_3.ext E21
  have F21_4 := F20_4.ext E21
  have F21_5 := F20_5.ext E21
  have X21_0 := X20_0.ext E21
  have X21_1 := X20_1.ext E21
  have X21_2 := X20_2.ext E21
  have X21_3 := X20_3.ext E21
  have X21_4 := X20_4.ext E21
  have X21_5 := X20_5.ext E21
  have S21_0 := S20_0.ext E21
  have S21_1 := S20_1.ext E21
  have S21_2 := S20_2.ext E21
  have S21_3 := S20_3.ext E21
  have S21_4 := S20_4.ext E21
  have S21_5 := S20_5.ext E21
  have V21_0 := V_b2_20.ext E21
  have z21 : n0 ≤ h21.size := Nat.le_trans z20 E21.1
  have V_b21 : Arv Z h21 b21 k21 .boolean (6 : Int32) [(.int (0 : Int32)), (.int (0 : Int32)), (.int (0 : Int32)), (.int (0 : Int32)), (.int (0 : Int32)), (.int (0 : Int32))] (.int (0 : Int32)) := (Arv.new A21 (by decide)).pad (pad_rep [] (.int (0 : Int32)) 6)
  obtain ⟨cl22, Ar22, q22, S22, M22, H22, G22⟩ := id V_b21
  have hin22 : ¬ ((0 : Int32) < 0 ∨ cl22.slots.size ≤ ((0 : Int32)).toNatClampNeg) := inb_of S22 ⟨by decide, by decide⟩
  obtain ⟨T23, h23, X23, e23, W23, st23⟩ := stZ X21 hx hZ e21 Ar22 (j := (0 : Int32)) hin22 (g := (mkF m 57 #[.val (.int p1), .val (.int k0), .val (.ref b2), .unset, .unset] [(.int (1 : Int32)), (.int (0 : Int32)), (.ref b21), (.ref b21)])) rfl rfl (hb hby at_57)
  have V_b21_23 : Arv Z h23 b21 k21 .boolean (6 : Int32) [(.int (1 : Int32)), (.int (0 : Int32)), (.int (0 : Int32)), (.int (0 : Int32)), (.int (0 : Int32)), (.int (0 : Int32))] (.int (0 : Int32)) := Arv.set Ar22 q22 S22 M22 H22 G22 (fits_nar_bool _) W23 0 rfl (Nat.le_of_ble_eq_true rfl)
  have F23_0 := F21_0.other W23 (Or.inl ne_a_MISSING_b21)
  have F23_1 := F21_1.other W23 (Or.inl ne_a_CORRECT_b21)
  have F23_2 := F21_2.other W23 (Or.inl ne_a_ABSENT_b21)
  have F23_3 := F21_3.other W23 (Or.inl ne_a_CONFIRMED_b21)
  have F23_4 := F21_4.other W23 (Or.inl ne_a_INCORRECT_b21)
  have F23_5 := F21_5.other W23 (Or.inl ne_a_WARNING_b21)
  have X23_0 := X21_0.wr W23
  have X23_1 := X21_1.wr W23
  have X23_2 := X21_2.wr W23
  have X23_3 := X21_3.wr W23
  have X23_4 := X21_4.wr W23
  have X23_5 := X21_5.wr W23
  have S23_0 := S21_0.wr W23
  have S23_1 := S21_1.wr W23
  have S23_2 := S21_2.wr W23
  have S23_3 := S21_3.wr W23
  have S23_4 := S21_4.wr W23
  have S23_5 := S21_5.wr W23
  have V23_0 := V21_0.other W23 ne_b2_b21
  have z23 : n0 ≤ h23.size := by rw [W23.size]; exact z21
  have N23 := Fr.snoc X23 N20 g_b21
  obtain ⟨cl24, Ar24, q24, S24, M24, H24, G24⟩ := id V_b21_23
  have hin24 : ¬ ((1 : Int32) < 0 ∨ cl24.slots.size ≤ ((1 : Int32)).toNatClampNeg) := inb_of S24 ⟨by decide, by decide⟩
  obtain ⟨T25, h25, X25, e25, W25, st25⟩ := stZ X23 hx hZ e23 Ar24 (j := (1 : Int32)) hin24 (g := (mkF m 61 #[.val (.int p1), .val (.int k0), .val (.ref b2), .unset, .unset] [(.int (0 : Int32)), (.int (1 : Int32)), (.ref b21), (.ref b21)])) rfl rfl (hb hby at_61)
  have V_b21_25 : Arv Z h25 b21 k21 .boolean (6 : Int32) [(.int (1 : Int32)), (.int (0 : Int32)), (.int (0 : Int32)), (.int (0 : Int32)), (.int (0 : Int32)), (.int (0 : Int32))] (.int (0 : Int32)) := Arv.set Ar24 q24 S24 M24 H24 G24 (fits_nar_bool _) W25 1 rfl (Nat.le_of_ble_eq_true rfl)
  have F25_0 := F23_0.other W25 (Or.inl ne_a_MISSING_b21)
  have F25_1 := F23_1.other W25 (Or.inl ne_a_CORRECT_b21)
  have F25_2 := F23_2.other W25 (Or.inl ne_a_ABSENT_b21)
  have F25_3 := F23_3.other W25 (Or.inl ne_a_CONFIRMED_b21)
  have F25_4 := F23_4.other W25 (Or.inl ne_a_INCORRECT_b21)
  have F25_5 := F23_5.other W25 (Or.inl ne_a_WARNING_b21)
  have X25_0 := X23_0.wr W25
  have X25_1 := X23_1.wr W25
  have X25_2 := X23_2.wr W25
  have X25_3 := X23_3.wr W25
  have X25_4 := X23_4.wr W25
  have X25_5 := X23_5.wr W25
  have S25_0 := S23_0.wr W25
  have S25_1 := S23_1.wr W25
  have S25_2 := S23_2.wr W25
  have S25_3 := S23_3.wr W25
  have S25_4 := S23_4.wr W25
  have S25_5 := S23_5.wr W25
  have V25_0 := V23_0.other W25 ne_b2_b21
  have z25 : n0 ≤ h25.size := by rw [W25.size]; exact z23
  have N25 := Fr.snoc X25 N23 g_b21
  obtain ⟨cl26, Ar26, q26, S26, M26, H26, G26⟩ := id V_b21_25
  have hin26 : ¬ ((2 : Int32) < 0 ∨ cl26.slots.size ≤ ((2 : Int32)).toNatClampNeg) := inb_of S26 ⟨by decide, by decide⟩
  obtain ⟨T27, h27, X27, e27, W27, st27⟩ := stZ X25 hx hZ e25 Ar26 (j := (2 : Int32)) hin26 (g := (mkF m 65 #[.val (.int p1), .val (.int k0), .val (.ref b2), .unset, .unset] [(.int (0 : Int32)), (.int (2 : Int32)), (.ref b21), (.ref b21)])) rfl rfl (hb hby at_65)
  have V_b21_27 : Arv Z h27 b21 k21 .boolean (6 : Int32) [(.int (1 : Int32)), (.int (0 : Int32)), (.int (0 : Int32)), (.int (0 : Int32)), (.int (0 : Int32)), (.int (0 : Int32))] (.int (0 : Int32)) := Arv.set Ar26 q26 S26 M26 H26 G26 (fits_nar_bool _) W27 2 rfl (Nat.le_of_ble_eq_true rfl)
  have F27_0 := F25_0.other W27 (Or.inl ne_a_MISSING_b21)
  have F27_1 := F25_1.other W27 (Or.inl ne_a_CORRECT_b21)
  have F27_2 := F25_2.other W27 (Or.inl ne_a_ABSENT_b21)
  have F27_3 := F25_3.other W27 (Or.inl ne_a_CONFIRMED_b21)
  have F27_4 := F25_4.other W27 (Or.inl ne_a_INCORRECT_b21)
  have F27_5 := F25_5.other W27 (Or.inl ne_a_WARNING_b21)
  have X27_0 := X25_0.wr W27
  have X27_1 := X25_1.wr W27
  have X27_2 := X25_2.wr W27
  have X27_3 := X25_3.wr W27
  have X27_4 := X25_4.wr W27
  have X27_5 := X25_5.wr W27
  have S27_0 := S25_0.wr W27
  have S27_1 := S25_1.wr W27
  have S27_2 := S25_2.wr W27
  have S27_3 := S25_3.wr W27
  have S27_4 := S25_4.wr W27
  have S27_5 := S25_5.wr W27
  have V27_0 := V25_0.other W27 ne_b2_b21
  have z27 : n0 ≤ h27.size := by rw [W27.size]; exact z25
  have N27 := Fr.snoc X27 N25 g_b21
  obtain ⟨cl28, Ar28, q28, S28, M28, H28, G28⟩ := id V_b21_27
  have hin28 : ¬ ((3 : Int32) < 0 ∨ cl28.slots.size ≤ ((3 : Int32)).toNatClampNeg) := inb_of S28 ⟨by decide, by decide⟩
  obtain ⟨T29, h29, X29, e29, W29, st29⟩ := stZ X27 hx hZ e27 Ar28 (j := (3 : Int32)) hin28 (g := (mkF m 69 #[.val (.int p1), .val (.int k0), .val (.ref b2), .unset, .unset] [(.int (0 : Int32)), (.int (3 : Int32)), (.ref b21), (.ref b21)])) rfl rfl (hb hby at_69)
  have V_b21_29 : Arv Z h29 b21 k21 .boolean (6 : Int32) [(.int (1 : Int32)), (.int (0 : Int32)), (.int (0 : Int32)), (.int (0 : Int32)), (.int (0 : Int32)), (.int (0 : Int32))] (.int (0 : Int32)) := Arv.set Ar28 q28 S28 M28 H28 G28 (fits_nar_bool _) W29 3 rfl (Nat.le_of_ble_eq_true rfl)
  have F29_0 := F27_0.other W29 (Or.inl ne_a_MISSING_b21)
  have F29_1 := F27_1.other W29 (Or.inl ne_a_CORRECT_b21)
  have F29_2 := F27_2.other W29 (Or.inl ne_a_ABSENT_b21)
  have F29_3 := F27_3.other W29 (Or.inl ne_a_CONFIRMED_b21)
  have F29_4 := F27_4.other W29 (Or.inl ne_a_INCORRECT_b21)
  have F29_5 := F27_5.other W29 (Or.inl ne_a_WARNING_b21)
  have X29_0 := X27_0.wr W29
  have X29_1 := X27_1.wr W29
  have X29_2 := X27_2.wr W29
  have X29_3 := X27_3.wr W29
  have X29_4 := X27_4.wr W29
  have X29_5 := X27_5.wr W29
  have S29_0 := S27_0.wr W29
  have S29_1 := S27_1.wr W29
  have S29_2 := S27_2.wr W29
  have S29_3 := S27_3.wr W29
  have S29_4 := S27_4.wr W29
  have S29_5 := S27_5.wr W29
  have V29_0 := V27_0.other W29 ne_b2_b21
  have z29 : n0 ≤ h29.size := by rw [W29.size]; exact z27
  have N29 := Fr.snoc X29 N27 g_b21
  obtain ⟨cl30, Ar30, q30, S30, M30, H30, G30⟩ := id V_b21_29
  have hin30 : ¬ ((4 : Int32) < 0 ∨ cl30.slots.size ≤ ((4 : Int32)).toNatClampNeg) := inb_of S30 ⟨by decide, by decide⟩
  obtain ⟨T31, h31, X31, e31, W31, st31⟩ := stZ X29 hx hZ e29 Ar30 (j := (4 : Int32)) hin30 (g := (mkF m 73 #[.val (.int p1), .val (.int k0), .val (.ref b2), .unset, .unset] [(.int (1 : Int32)), (.int (4 : Int32)), (.ref b21), (.ref b21)])) rfl rfl (hb hby at_73)
  have V_b21_31 : Arv Z h31 b21 k21 .boolean (6 : Int32) [(.int (1 : Int32)), (.int (0 : Int32)), (.int (0 : Int32)), (.int (0 : Int32)), (.int (1 : Int32)), (.int (0 : Int32))] (.int (0 : Int32)) := Arv.set Ar30 q30 S30 M30 H30 G30 (fits_nar_bool _) W31 4 rfl (Nat.le_of_ble_eq_true rfl)
  have F31_0 := F29_0.other W31 (Or.inl ne_a_MISSING_b21)
  have F31_1 := F29_1.other W31 (Or.inl ne_a_CORRECT_b21)
  have F31_2 := F29_2.other W31 (Or.inl ne_a_ABSENT_b21)
  have F31_3 := F29_3.other W31 (Or.inl ne_a_CONFIRMED_b21)
  have F31_4 := F29_4.other W31 (Or.inl ne_a_INCORRECT_b21)
  have F31_5 := F29_5.other W31 (Or.inl ne_a_WARNING_b21)
  have X31_0 := X29_0.wr W31
  have X31_1 := X29_1.wr W31
  have X31_2 := X29_2.wr W31
  have X31_3 := X29_3.wr W31
  have X31_4 := X29_4.wr W31
  have X31_5 := X29_5.wr W31
  have S31_0 := S29_0.wr W31
  have S31_1 := S29_1.wr W31
  have S31_2 := S29_2.wr W31
  have S31_3 := S29_3.wr W31
  have S31_4 := S29_4.wr W31
  have S31_5 := S29_5.wr W31
  have V31_0 := V29_0.other W31 ne_b2_b21
  have z31 : n0 ≤ h31.size := by rw [W31.size]; exact z29
  have N31 := Fr.snoc X31 N29 g_b21
  obtain ⟨cl32, Ar32, q32, S32, M32, H32, G32⟩ := id V_b21_31
  have hin32 : ¬ ((5 : Int32) < 0 ∨ cl32.slots.size ≤ ((5 : Int32)).toNatClampNeg) := inb_of S32 ⟨by decide, by decide⟩
  obtain ⟨T33, h33, X33, e33, W33, st33⟩ := stZ X31 hx hZ e31 Ar32 (j := (5 : Int32)) hin32 (g := (mkF m 77 #[.val (.int p1), .val (.int k0), .val (.ref b2), .unset, .unset] [(.int (1 : Int32)), (.int (5 : Int32)), (.ref b21), (.ref b21)])) rfl rfl (hb hby at_77)
  have V_b21_33 : Arv Z h33 b21 k21 .boolean (6 : Int32) [(.int (1 : Int32)), (.int (0 : Int32)), (.int (0 : Int32)), (.int (0 : Int32)), (.int (1 : Int32)), (.int (1 : Int32))] (.int (0 : Int32)) := Arv.set Ar32 q32 S32 M32 H32 G32 (fits_nar_bool _) W33 5 rfl (Nat.le_of_ble_eq_true rfl)
  have F33_0 := F31_0.other W33 (Or.inl ne_a_MISSING_b21)
  have F33_1 := F31_1.other W33 (Or.inl ne_a_CORRECT_b21)
  have F33_2 := F31_2.other W33 (Or.inl ne_a_ABSENT_b21)
  have F33_3 := F31_3.other W33 (Or.inl ne_a_CONFIRMED_b21)
  have F33_4 := F31_4.other W33 (Or.inl ne_a_INCORRECT_b21)
  have F33_5 := F31_5.other W33 (Or.inl ne_a_WARNING_b21)
  have X33_0 := X31_0.wr W33
  have X33_1 := X31_1.wr W33
  have X33_2 := X31_2.wr W33
  have X33_3 := X31_3.wr W33
  have X33_4 := X31_4.wr W33
  have X33_5 := X31_5.wr W33
  have S33_0 := S31_0.wr W33
  have S33_1 := S31_1.wr W33
  have S33_2 := S31_2.wr W33
  have S33_3 := S31_3.wr W33
  have S33_4 := S31_4.wr W33
  have S33_5 := S31_5.wr W33
  have V33_0 := V31_0.other W33 ne_b2_b21
  have z33 : n0 ≤ h33.size := by rw [W33.size]; exact z31
  have N33 := Fr.snoc X33 N31 g_b21
  have pre34 : ∀ t, Steps p.tables e below (T33.setTop (mkF m 81 #[.val (.int p1), .val (.int k0), .val (.ref b2), .val (.ref b21), .unset] [(.int k0), (.ref b2)])) t → Steps p.tables e below (s₁.setTop (entryFrame m #[(.int p1)] maxLocals)) t := fun t k => pre1 t (by
    show Steps p.tables e below (s₁.setTop (mkF m 7 #[.val (.int p1), .unset, .unset, .unset, .unset] [(.int k0)])) _
    refine XS.istoreN X0.here hx rfl (hb hby at_7) rfl (l' := #[.val (.int p1), .val (.int k0), .unset, .unset, .unset]) rfl ?_
    show Steps p.tables e below (s₁.setTop (mkF m 8 #[.val (.int p1), .val (.int k0), .unset, .unset, .unset] [])) _
    refine XS.bipush X0.here hx rfl (hb hby at_8) ?_
    show Steps p.tables e below (s₁.setTop (mkF m 10 #[.val (.int p1), .val (.int k0), .unset, .unset, .unset] [(.int (6 : Int32))])) _
    refine st2 _ ?_
    show Steps p.tables e below (T2.setTop (mkF m 13 #[.val (.int p1), .val (.int k0), .unset, .unset, .unset] [(.ref b2)])) _
    refine XS.dup X2.here hx rfl (hb hby at_13) rfl rfl ?_
    show Steps p.tables e below (T2.setTop (mkF m 14 #[.val (.int p1), .val (.int k0), .unset, .unset, .unset] [(.ref b2), (.ref b2)])) _
    refine XS.iconst X2.here hx rfl (hb hby at_14) ?_
    show Steps p.tables e below (T2.setTop (mkF m 15 #[.val (.int p1), .val (.int k0), .unset, .unset, .unset] [(.int (0 : Int32)), (.ref b2), (.ref b2)])) _
    refine st3 _ ?_
    show Steps p.tables e below (T3.setTop (mkF m 18 #[.val (.int p1), .val (.int k0), .unset, .unset, .unset] [(.ref a_CORRECT), (.int (0 : Int32)), (.ref b2), (.ref b2)])) _
    refine st5 _ ?_
    show Steps p.tables e below (T5.setTop (mkF m 19 #[.val (.int p1), .val (.int k0), .unset, .unset, .unset] [(.ref b2)])) _
    refine XS.dup X5.here hx rfl (hb hby at_19) rfl rfl ?_
    show Steps p.tables e below (T5.setTop (mkF m 20 #[.val (.int p1), .val (.int k0), .unset, .unset, .unset] [(.ref b2), (.ref b2)])) _
    refine XS.iconst X5.here hx rfl (hb hby at_20) ?_
    show Steps p.tables e below (T5.setTop (mkF m 21 #[.val (.int p1), .val (.int k0), .unset, .unset, .unset] [(.int (1 : Int32)), (.ref b2), (.ref b2)])) _
    refine st6 _ ?_
    show Steps p.tables e below (T6.setTop (mkF m 24 #[.val (.int p1), .val (.int k0), .unset, .unset, .unset] [(.ref a_WARNING), (.int (1 : Int32)), (.ref b2), (.ref b2)])) _
    refine st8 _ ?_
    show Steps p.tables e below (T8.setTop (mkF m 25 #[.val (.int p1), .val (.int k0), .unset, .unset, .unset] [(.ref b2)])) _
    refine XS.dup X8.here hx rfl (hb hby at_25) rfl rfl ?_
    show Steps p.tables e below (T8.setTop (mkF m 26 #[.val (.int p1), .val (.int k0), .unset, .unset, .unset] [(.ref b2), (.ref b2)])) _
    refine XS.iconst X8.here hx rfl (hb hby at_26) ?_
    show Steps p.tables e below (T8.setTop (mkF m 27 #[.val (.int p1), .val (.int k0), .unset, .unset, .unset] [(.int (2 : Int32)), (.ref b2), (.ref b2)])) _
    refine st9 _ ?_
    show Steps p.tables e below (T9.setTop (mkF m 30 #[.val (.int p1), .val (.int k0), .unset, .unset, .unset] [(.ref a_INCORRECT), (.int (2 : Int32)), (.ref b2), (.ref b2)])) _
    refine st11 _ ?_
    show Steps p.tables e below (T11.setTop (mkF m 31 #[.val (.int p1), .val (.int k0), .unset, .unset, .unset] [(.ref b2)])) _
    refine XS.dup X11.here hx rfl (hb hby at_31) rfl rfl ?_
    show Steps p.tables e below (T11.setTop (mkF m 32 #[.val (.int p1), .val (.int k0), .unset, .unset, .unset] [(.ref b2), (.ref b2)])) _
    refine XS.iconst X11.here hx rfl (hb hby at_32) ?_
    show Steps p.tables e below (T11.setTop (mkF m 33 #[.val (.int p1), .val (.int k0), .unset, .unset, .unset] [(.int (3 : Int32)), (.ref b2), (.ref b2)])) _
    refine st12 _ ?_
    show Steps p.tables e below (T12.setTop (mkF m 36 #[.val (.int p1), .val (.int k0), .unset, .unset, .unset] [(.ref a_MISSING), (.int (3 : Int32)), (.ref b2), (.ref b2)])) _
    refine st14 _ ?_
    show Steps p.tables e below (T14.setTop (mkF m 37 #[.val (.int p1), .val (.int k0), .unset, .unset, .unset] [(.ref b2)])) _
    refine XS.dup X14.here hx rfl (hb hby at_37) rfl rfl ?_
    show Steps p.tables e below (T14.setTop (mkF m 38 #[.val (.int p1), .val (.int k0), .unset, .unset, .unset] [(.ref b2), (.ref b2)])) _
    refine XS.iconst X14.here hx rfl (hb hby at_38) ?_
    show Steps p.tables e below (T14.setTop (mkF m 39 #[.val (.int p1), .val (.int k0), .unset, .unset, .unset] [(.int (4 : Int32)), (.ref b2), (.ref b2)])) _
    refine st15 _ ?_
    show Steps p.tables e below (T15.setTop (mkF m 42 #[.val (.int p1), .val (.int k0), .unset, .unset, .unset] [(.ref a_ABSENT), (.int (4 : Int32)), (.ref b2), (.ref b2)])) _
    refine st17 _ ?_
    show Steps p.tables e below (T17.setTop (mkF m 43 #[.val (.int p1), .val (.int k0), .unset, .unset, .unset] [(.ref b2)])) _
    refine XS.dup X17.here hx rfl (hb hby at_43) rfl rfl ?_
    show Steps p.tables e below (T17.setTop (mkF m 44 #[.val (.int p1), .val (.int k0), .unset, .unset, .unset] [(.ref b2), (.ref b2)])) _
    refine XS.iconst X17.here hx rfl (hb hby at_44) ?_
    show Steps p.tables e below (T17.setTop (mkF m 45 #[.val (.int p1), .val (.int k0), .unset, .unset, .unset] [(.int (5 : Int32)), (.ref b2), (.ref b2)])) _
    refine st18 _ ?_
    show Steps p.tables e below (T18.setTop (mkF m 48 #[.val (.int p1), .val (.int k0), .unset, .unset, .unset] [(.ref a_CONFIRMED), (.int (5 : Int32)), (.ref b2), (.ref b2)])) _
    refine st20 _ ?_
    show Steps p.tables e below (T20.setTop (mkF m 49 #[.val (.int p1), .val (.int k0), .unset, .unset, .unset] [(.ref b2)])) _
    refine XS.astoreN X20.here hx rfl (hb hby at_49) rfl rfl (l' := #[.val (.int p1), .val (.int k0), .val (.ref b2), .unset, .unset]) rfl ?_
    show Steps p.tables e below (T20.setTop (mkF m 50 #[.val (.int p1), .val (.int k0), .val (.ref b2), .unset, .unset] [])) _
    refine XS.bipush X20.here hx rfl (hb hby at_50) ?_
    show Steps p.tables e below (T20.setTop (mkF m 52 #[.val (.int p1), .val (.int k0), .val (.ref b2), .unset, .unset] [(.int (6 : Int32))])) _
    refine st21 _ ?_
    show Steps p.tables e below (T21.setTop (mkF m 54 #[.val (.int p1), .val (.int k0), .val (.ref b2), .unset, .unset] [(.ref b21)])) _
    refine XS.dup X21.here hx rfl (hb hby at_54) rfl rfl ?_
    show Steps p.tables e below (T21.setTop (mkF m 55 #[.val (.int p1), .val (.int k0), .val (.ref b2), .unset, .unset] [(.ref b21), (.ref b21)])) _
    refine XS.iconst X21.here hx rfl (hb hby at_55) ?_
    show Steps p.tables e below (T21.setTop (mkF m 56 #[.val (.int p1), .val (.int k0), .val (.ref b2), .unset, .unset] [(.int (0 : Int32)), (.ref b21), (.ref b21)])) _
    refine XS.iconst X21.here hx rfl (hb hby at_56) ?_
    show Steps p.tables e below (T21.setTop (mkF m 57 #[.val (.int p1), .val (.int k0), .val (.ref b2), .unset, .unset] [(.int (1 : Int32)), (.int (0 : Int32)), (.ref b21), (.ref b21)])) _
    refine st23 _ ?_
    show Steps p.tables e below (T23.setTop (mkF m 58 #[.val (.int p1), .val (.int k0), .val (.ref b2), .unset, .unset] [(.ref b21)])) _
    refine XS.dup X23.here hx rfl (hb hby at_58) rfl rfl ?_
    show Steps p.tables e below (T23.setTop (mkF m 59 #[.val (.int p1), .val (.int k0), .val (.ref b2), .unset, .unset] [(.ref b21), (.ref b21)])) _
    refine XS.iconst X23.here hx rfl (hb hby at_59) ?_
    show Steps p.tables e below (T23.setTop (mkF m 60 #[.val (.int p1), .val (.int k0), .val (.ref b2), .unset, .unset] [(.int (1 : Int32)), (.ref b21), (.ref b21)])) _
    refine XS.iconst X23.here hx rfl (hb hby at_60) ?_
    show Steps p.tables e below (T23.setTop (mkF m 61 #[.val (.int p1), .val (.int k0), .val (.ref b2), .unset, .unset] [(.int (0 : Int32)), (.int (1 : Int32)), (.ref b21), (.ref b21)])) _
    refine st25 _ ?_
    show Steps p.tables e below (T25.setTop (mkF m 62 #[.val (.int p1), .val (.int k0), .val (.ref b2), .unset, .unset] [(.ref b21)])) _
    refine XS.dup X25.here hx rfl (hb hby at_62) rfl rfl ?_
    show Steps p.tables e below (T25.setTop (mkF m 63 #[.val (.int p1), .val (.int k0), .val (.ref b2), .unset, .unset] [(.ref b21), (.ref b21)])) _
    refine XS.iconst X25.here hx rfl (hb hby at_63) ?_
    show Steps p.tables e below (T25.setTop (mkF m 64 #[.val (.int p1), .val (.int k0), .val (.ref b2), .unset, .unset] [(.int (2 : Int32)), (.ref b21), (.ref b21)])) _
    refine XS.iconst X25.here hx rfl (hb hby at_64) ?_
    show Steps p.tables e below (T25.setTop (mkF m 65 #[.val (.int p1), .val (.int k0), .val (.ref b2), .unset, .unset] [(.int (0 : Int32)), (.int (2 : Int32)), (.ref b21), (.ref b21)])) _
    refine st27 _ ?_
    show Steps p.tables e below (T27.setTop (mkF m 66 #[.val (.int p1), .val (.int k0), .val (.ref b2), .unset, .unset] [(.ref b21)])) _
    refine XS.dup X27.here hx rfl (hb hby at_66) rfl rfl ?_
    show Steps p.tables e below (T27.setTop (mkF m 67 #[.val (.int p1), .val (.int k0), .val (.ref b2), .unset, .unset] [(.ref b21), (.ref b21)])) _
    refine XS.iconst X27.here hx rfl (hb hby at_67) ?_
    show Steps p.tables e below (T27.setTop (mkF m 68 #[.val (.int p1), .val (.int k0), .val (.ref b2), .unset, .unset] [(.int (3 : Int32)), (.ref b21), (.ref b21)])) _
    refine XS.iconst X27.here hx rfl (hb hby at_68) ?_
    show Steps p.tables e below (T27.setTop (mkF m 69 #[.val (.int p1), .val (.int k0), .val (.ref b2), .unset, .unset] [(.int (0 : Int32)), (.int (3 : Int32)), (.ref b21), (.ref b21)])) _
    refine st29 _ ?_
    show Steps p.tables e below (T29.setTop (mkF m 70 #[.val (.int p1), .val (.int k0), .val (.ref b2), .unset, .unset] [(.ref b21)])) _
    refine XS.dup X29.here hx rfl (hb hby at_70) rfl rfl ?_
    show Steps p.tables e below (T29.setTop (mkF m 71 #[.val (.int p1), .val (.int k0), .val (.ref b2), .unset, .unset] [(.ref b21), (.ref b21)])) _
    refine XS.iconst X29.here hx rfl (hb hby at_71) ?_
    show Steps p.tables e below (T29.setTop (mkF m 72 #[.val (.int p1), .val (.int k0), .val (.ref b2), .unset, .unset] [(.int (4 : Int32)), (.ref b21), (.ref b21)])) _
    refine XS.iconst X29.here hx rfl (hb hby at_72) ?_
    show Steps p.tables e below (T29.setTop (mkF m 73 #[.val (.int p1), .val (.int k0), .val (.ref b2), .unset, .unset] [(.int (1 : Int32)), (.int (4 : Int32)), (.ref b21), (.ref b21)])) _
    refine st31 _ ?_
    show Steps p.tables e below (T31.setTop (mkF m 74 #[.val (.int p1), .val (.int k0), .val (.ref b2), .unset, .unset] [(.ref b21)])) _
    refine XS.dup X31.here hx rfl (hb hby at_74) rfl rfl ?_
    show Steps p.tables e below (T31.setTop (mkF m 75 #[.val (.int p1), .val (.int k0), .val (.ref b2), .unset, .unset] [(.ref b21), (.ref b21)])) _
    refine XS.iconst X31.here hx rfl (hb hby at_75) ?_
    show Steps p.tables e below (T31.setTop (mkF m 76 #[.val (.int p1), .val (.int k0), .val (.ref b2), .unset, .unset] [(.int (5 : Int32)), (.ref b21), (.ref b21)])) _
    refine XS.iconst X31.here hx rfl (hb hby at_76) ?_
    show Steps p.tables e below (T31.setTop (mkF m 77 #[.val (.int p1), .val (.int k0), .val (.ref b2), .unset, .unset] [(.int (1 : Int32)), (.int (5 : Int32)), (.ref b21), (.ref b21)])) _
    refine st33 _ ?_
    show Steps p.tables e below (T33.setTop (mkF m 78 #[.val (.int p1), .val (.int k0), .val (.ref b2), .unset, .unset] [(.ref b21)])) _
    refine XS.astoreN X33.here hx rfl (hb hby at_78) rfl rfl (l' := #[.val (.int p1), .val (.int k0), .val (.ref b2), .val (.ref b21), .unset]) rfl ?_
    show Steps p.tables e below (T33.setTop (mkF m 79 #[.val (.int p1), .val (.int k0), .val (.ref b2), .val (.ref b21), .unset] [])) _
    refine XS.aloadN X33.here hx rfl (hb hby at_79) rfl rfl ?_
    show Steps p.tables e below (T33.setTop (mkF m 80 #[.val (.int p1), .val (.int k0), .val (.ref b2), .val (.ref b21), .unset] [(.ref b2)])) _
    refine XS.iloadN X33.here hx rfl (hb hby at_80) rfl ?_
    exact k)
  rcases hk with hk | hk | hk | hk | hk | hk
  · subst hk
    obtain ⟨cl35, Ar35, q35, S35, M35, H35, G35⟩ := id V33_0
    have hin35 : ¬ ((0 : Int32) < 0 ∨ cl35.slots.size ≤ ((0 : Int32)).toNatClampNeg) := inb_of S35 ⟨by decide, by decide⟩
    have hat35 : cl35.slots[((0 : Int32)).toNatClampNeg]? = some (.ref a_CORRECT) := Has.at H35 hin35 rfl
    obtain ⟨cq36, kq36, q36a, q36b, q36c⟩ := isOf hZ e33 X33_0
    obtain ⟨_, _, ⟨T36, L36, k36, n36⟩, -, X36, ⟨Lc36, hQ36, l36, y36, z36⟩, st36⟩ := X33.virtualBack hx (y := (⟨"com/example/fapiao_lens/fapiaolens/Status", "needsNoReview", "()Z"⟩ : MethodName)) (z := (⟨"com/example/fapiao_lens/fapiaolens/Status", "needsNoReview", "()Z"⟩ : MethodName)) hown (mvT hZ (hw _ (List.mem_of_getElem? (i := 18) rfl))) (mvT hZ (hw _ (List.mem_of_getElem? (i := 19) rfl))) (notFace_of_selects (args := #[]) (mvT hZ (hw _ (List.mem_of_getElem? (i := 21) rfl)))) (mvT hZ (hw _ (List.mem_of_getElem? (i := 21) rfl))) (mvT hZ (hw _ (List.mem_of_getElem? (i := 20) rfl))) (by decide) (backOf (W := 0) (rm2_0 l Z a0 hw []  a_CORRECT a_WARNING a_INCORRECT a_MISSING a_ABSENT a_CONFIRMED h33 n0 z33 S33_0 X33_0 S33_1 X33_1 S33_2 X33_2 S33_3 X33_3 S33_4 X33_4 S33_5 X33_5 F33_0 F33_1 F33_2 F33_3 F33_4 F33_5) hZ (hw _ (List.mem_of_getElem? (i := 22) rfl)) (hw _ (List.mem_of_getElem? (i := 4) rfl)) (by decide) (by decide)) q36a q36c (g := (mkF m 86 #[.val (.int p1), .val (.int (0 : Int32)), .val (.ref b2), .val (.ref b21), .val (.ref a_CORRECT)] [(.ref a_CORRECT)])) rfl (by rw [hml]; rfl) (Steps.refl _) (argsL := []) (rest := []) (lenOf own_pd0 rfl) rfl (by show 2 * 0 + _ ≤ _; exact Nat.le_of_eq rfl) (hb hby at_86) (fun _ _ => ⟨rfl, e33, (by decide : 2 + 0 ≤ _), (by decide : 12 + 0 ≤ _)⟩)
    dsimp only [Pt.U, Pt.locs, Pt.cells, Pt.slots] at X36 l36 y36 z36 st36 hQ36
    subst l36 y36 z36
    obtain ⟨rfl, N36q, e36⟩ := hQ36
    have N36 := Fr.app N33 N36q
    obtain ⟨cl37, Ar37, q37, S37, M37, H37, G37⟩ := id V_b21_33
    have hin37 : ¬ ((0 : Int32) < 0 ∨ cl37.slots.size ≤ ((0 : Int32)).toNatClampNeg) := inb_of S37 ⟨by decide, by decide⟩
    have hat37 : cl37.slots[((0 : Int32)).toNatClampNeg]? = some (.int (1 : Int32)) := Has.at H37 hin37 rfl
    have pre38 : ∀ t, Steps p.tables e below (T36.setTop (mkF m 100 #[.val (.int p1), .val (.int (0 : Int32)), .val (.ref b2), .val (.ref b21), .val (.ref a_CORRECT)] [(.int (1 : Int32))])) t → Steps p.tables e below (s₁.setTop (entryFrame m #[(.int p1)] maxLocals)) t := fun t k => pre34 t (by
      show Steps p.tables e below (T33.setTop (mkF m 81 #[.val (.int p1), .val (.int (0 : Int32)), .val (.ref b2), .val (.ref b21), .unset] [(.int (0 : Int32)), (.ref b2)])) _
      refine X33.aaload hx (j := (0 : Int32)) (v := (.ref a_CORRECT)) (by rw [e33]; exact Ar35.1) (State.isArrayOf_alike hZ.alike Ar35.2.1) rfl Ar35.2.2 hin35 hat35 (g := (mkF m 81 #[.val (.int p1), .val (.int (0 : Int32)), .val (.ref b2), .val (.ref b21), .unset] [(.int (0 : Int32)), (.ref b2)])) rfl rfl (hb hby at_81) _ ?_
      show Steps p.tables e below (T33.setTop (mkF m 82 #[.val (.int p1), .val (.int (0 : Int32)), .val (.ref b2), .val (.ref b21), .unset] [(.ref a_CORRECT)])) _
      refine XS.astore X33.here hx rfl (hb hby at_82) rfl rfl (l' := #[.val (.int p1), .val (.int (0 : Int32)), .val (.ref b2), .val (.ref b21), .val (.ref a_CORRECT)]) rfl ?_
      show Steps p.tables e below (T33.setTop (mkF m 84 #[.val (.int p1), .val (.int (0 : Int32)), .val (.ref b2), .val (.ref b21), .val (.ref a_CORRECT)] [])) _
      refine XS.aload X33.here hx rfl (hb hby at_84) rfl rfl ?_
      show Steps p.tables e below (T33.setTop (mkF m 86 #[.val (.int p1), .val (.int (0 : Int32)), .val (.ref b2), .val (.ref b21), .val (.ref a_CORRECT)] [(.ref a_CORRECT)])) _
      refine st36.trans ?_
      show Steps p.tables e below (T36.setTop (mkF m 89 #[.val (.int p1), .val (.int (0 : Int32)), .val (.ref b2), .val (.ref b21), .val (.ref a_CORRECT)] [(.int (1 : Int32))])) _
      refine XS.aloadN X36.here hx rfl (hb hby at_89) rfl rfl ?_
      show Steps p.tables e below (T36.setTop (mkF m 90 #[.val (.int p1), .val (.int (0 : Int32)), .val (.ref b2), .val (.ref b21), .val (.ref a_CORRECT)] [(.ref b21), (.int (1 : Int32))])) _
      refine XS.iloadN X36.here hx rfl (hb hby at_90) rfl ?_
      show Steps p.tables e below (T36.setTop (mkF m 91 #[.val (.int p1), .val (.int (0 : Int32)), .val (.ref b2), .val (.ref b21), .val (.ref a_CORRECT)] [(.int (0 : Int32)), (.ref b21), (.int (1 : Int32))])) _
      refine X36.baloadBooleans hx (j := (0 : Int32)) (v := (.int (1 : Int32))) (by rw [e36]; exact Ar37.1) (State.isArrayOf_alike hZ.alike Ar37.2.1) Ar37.2.2 hin37 hat37 (g := (mkF m 91 #[.val (.int p1), .val (.int (0 : Int32)), .val (.ref b2), .val (.ref b21), .val (.ref a_CORRECT)] [(.int (0 : Int32)), (.ref b21), (.int (1 : Int32))])) rfl rfl (hb hby at_91) _ ?_
      show Steps p.tables e below (T36.setTop (mkF m 92 #[.val (.int p1), .val (.int (0 : Int32)), .val (.ref b2), .val (.ref b21), .val (.ref a_CORRECT)] [(.int (1 : Int32)), (.int (1 : Int32))])) _
      refine XS.icmpNo X36.here hx rfl (hb hby at_92) rfl (teq ((by decide) : (1 : Int32) = (1 : Int32))).2 ?_
      show Steps p.tables e below (T36.setTop (mkF m 95 #[.val (.int p1), .val (.int (0 : Int32)), .val (.ref b2), .val (.ref b21), .val (.ref a_CORRECT)] [])) _
      refine XS.iconst X36.here hx rfl (hb hby at_95) ?_
      show Steps p.tables e below (T36.setTop (mkF m 96 #[.val (.int p1), .val (.int (0 : Int32)), .val (.ref b2), .val (.ref b21), .val (.ref a_CORRECT)] [(.int (1 : Int32))])) _
      refine XS.goto X36.here hx rfl (pc0 := 96) (pc' := 100) rfl (hb hby at_96) (by decide) (by decide) ?_
      exact k)
    obtain ⟨fs, hr, hrun, hended, hW, hsame⟩ := X36.leave (v := some (.int (nar .boolean (1 : Int32)))) (fun h => by rw [Bd.returns] at h; cases h)
    refine ⟨_, _, pre38 _ ?_, hrun, hended, _, _, rfl, ?_, ⟨_, rfl⟩, hW, hsame.mono (by decide) (by decide)⟩
    · show Steps p.tables e below (T36.setTop (mkF m 100 #[.val (.int p1), .val (.int (0 : Int32)), .val (.ref b2), .val (.ref b21), .val (.ref a_CORRECT)] [(.int (1 : Int32))])) _
      exact retN X36 hx (t := .boolean) Bd.returns (by simp) (hb hby at_100) hr
    · show QL n0 _ T36.heap _
      rw [e36]
      exact ⟨rfl, N36⟩
  · subst hk
    obtain ⟨cl39, Ar39, q39, S39, M39, H39, G39⟩ := id V33_0
    have hin39 : ¬ ((1 : Int32) < 0 ∨ cl39.slots.size ≤ ((1 : Int32)).toNatClampNeg) := inb_of S39 ⟨by decide, by decide⟩
    have hat39 : cl39.slots[((1 : Int32)).toNatClampNeg]? = some (.ref a_WARNING) := Has.at H39 hin39 rfl
    obtain ⟨cq40, kq40, q40a, q40b, q40c⟩ := isOf hZ e33 X33_1
    obtain ⟨_, _, ⟨T40, L40, k40, n40⟩, -, X40, ⟨Lc40, hQ40, l40, y40, z40⟩, st40⟩ := X33.virtualBack hx (y := (⟨"com/example/fapiao_lens/fapiaolens/Status", "needsNoReview", "()Z"⟩ : MethodName)) (z := (⟨"com/example/fapiao_lens/fapiaolens/Status", "needsNoReview", "()Z"⟩ : MethodName)) hown (mvT hZ (hw _ (List.mem_of_getElem? (i := 18) rfl))) (mvT hZ (hw _ (List.mem_of_getElem? (i := 19) rfl))) (notFace_of_selects (args := #[]) (mvT hZ (hw _ (List.mem_of_getElem? (i := 21) rfl)))) (mvT hZ (hw _ (List.mem_of_getElem? (i := 21) rfl))) (mvT hZ (hw _ (List.mem_of_getElem? (i := 20) rfl))) (by decide) (backOf (W := 0) (rm2_1 l Z a0 hw []  a_CORRECT a_WARNING a_INCORRECT a_MISSING a_ABSENT a_CONFIRMED h33 n0 z33 S33_0 X33_0 S33_1 X33_1 S33_2 X33_2 S33_3 X33_3 S33_4 X33_4 S33_5 X33_5 F33_0 F33_1 F33_2 F33_3 F33_4 F33_5) hZ (hw _ (List.mem_of_getElem? (i := 22) rfl)) (hw _ (List.mem_of_getElem? (i := 4) rfl)) (by decide) (by decide)) q40a q40c (g := (mkF m 86 #[.val (.int p1), .val (.int (1 : Int32)), .val (.ref b2), .val (.ref b21), .val (.ref a_WARNING)] [(.ref a_WARNING)])) rfl (by rw [hml]; rfl) (Steps.refl _) (argsL := []) (rest := []) (lenOf own_pd0 rfl) rfl (by show 2 * 0 + _ ≤ _; exact Nat.le_of_eq rfl) (hb hby at_86) (fun _ _ => ⟨rfl, e33, (by decide : 2 + 0 ≤ _), (by decide : 12 + 0 ≤ _)⟩)
    dsimp only [Pt.U, Pt.locs, Pt.cells, Pt.slots] at X40 l40 y40 z40 st40 hQ40
    subst l40 y40 z40
    obtain ⟨rfl, N40q, e40⟩ := hQ40
    have N40 := Fr.app N33 N40q
    obtain ⟨cl41, Ar41, q41, S41, M41, H41, G41⟩ := id V_b21_33
    have hin41 : ¬ ((1 : Int32) < 0 ∨ cl41.slots.size ≤ ((1 : Int32)).toNatClampNeg) := inb_of S41 ⟨by decide, by decide⟩
    have hat41 : cl41.slots[((1 : Int32)).toNatClampNeg]? = some (.int (0 : Int32)) := Has.at H41 hin41 rfl
    have pre42 : ∀ t, Steps p.tables e below (T40.setTop (mkF m 100 #[.val (.int p1), .val (.int (1 : Int32)), .val (.ref b2), .val (.ref b21), .val (.ref a_WARNING)] [(.int (1 : Int32))])) t → Steps p.tables e below (s₁.setTop (entryFrame m #[(.int p1)] maxLocals)) t := fun t k => pre34 t (by
      show Steps p.tables e below (T33.setTop (mkF m 81 #[.val (.int p1), .val (.int (1 : Int32)), .val (.ref b2), .val (.ref b21), .unset] [(.int (1 : Int32)), (.ref b2)])) _
      refine X33.aaload hx (j := (1 : Int32)) (v := (.ref a_WARNING)) (by rw [e33]; exact Ar39.1) (State.isArrayOf_alike hZ.alike Ar39.2.1) rfl Ar39.2.2 hin39 hat39 (g := (mkF m 81 #[.val (.int p1), .val (.int (1 : Int32)), .val (.ref b2), .val (.ref b21), .unset] [(.int (1 : Int32)), (.ref b2)])) rfl rfl (hb hby at_81) _ ?_
      show Steps p.tables e below (T33.setTop (mkF m 82 #[.val (.int p1), .val (.int (1 : Int32)), .val (.ref b2), .val (.ref b21), .unset] [(.ref a_WARNING)])) _
      refine XS.astore X33.here hx rfl (hb hby at_82) rfl rfl (l' := #[.val (.int p1), .val (.int (1 : Int32)), .val (.ref b2), .val (.ref b21), .val (.ref a_WARNING)]) rfl ?_
      show Steps p.tables e below (T33.setTop (mkF m 84 #[.val (.int p1), .val (.int (1 : Int32)), .val (.ref b2), .val (.ref b21), .val (.ref a_WARNING)] [])) _
      refine XS.aload X33.here hx rfl (hb hby at_84) rfl rfl ?_
      show Steps p.tables e below (T33.setTop (mkF m 86 #[.val (.int p1), .val (.int (1 : Int32)), .val (.ref b2), .val (.ref b21), .val (.ref a_WARNING)] [(.ref a_WARNING)])) _
      refine st40.trans ?_
      show Steps p.tables e below (T40.setTop (mkF m 89 #[.val (.int p1), .val (.int (1 : Int32)), .val (.ref b2), .val (.ref b21), .val (.ref a_WARNING)] [(.int (0 : Int32))])) _
      refine XS.aloadN X40.here hx rfl (hb hby at_89) rfl rfl ?_
      show Steps p.tables e below (T40.setTop (mkF m 90 #[.val (.int p1), .val (.int (1 : Int32)), .val (.ref b2), .val (.ref b21), .val (.ref a_WARNING)] [(.ref b21), (.int (0 : Int32))])) _
      refine XS.iloadN X40.here hx rfl (hb hby at_90) rfl ?_
      show Steps p.tables e below (T40.setTop (mkF m 91 #[.val (.int p1), .val (.int (1 : Int32)), .val (.ref b2), .val (.ref b21), .val (.ref a_WARNING)] [(.int (1 : Int32)), (.ref b21), (.int (0 : Int32))])) _
      refine X40.baloadBooleans hx (j := (1 : Int32)) (v := (.int (0 : Int32))) (by rw [e40]; exact Ar41.1) (State.isArrayOf_alike hZ.alike Ar41.2.1) Ar41.2.2 hin41 hat41 (g := (mkF m 91 #[.val (.int p1), .val (.int (1 : Int32)), .val (.ref b2), .val (.ref b21), .val (.ref a_WARNING)] [(.int (1 : Int32)), (.ref b21), (.int (0 : Int32))])) rfl rfl (hb hby at_91) _ ?_
      show Steps p.tables e below (T40.setTop (mkF m 92 #[.val (.int p1), .val (.int (1 : Int32)), .val (.ref b2), .val (.ref b21), .val (.ref a_WARNING)] [(.int (0 : Int32)), (.int (0 : Int32))])) _
      refine XS.icmpNo X40.here hx rfl (hb hby at_92) rfl (teq ((by decide) : (0 : Int32) = (0 : Int32))).2 ?_
      show Steps p.tables e below (T40.setTop (mkF m 95 #[.val (.int p1), .val (.int (1 : Int32)), .val (.ref b2), .val (.ref b21), .val (.ref a_WARNING)] [])) _
      refine XS.iconst X40.here hx rfl (hb hby at_95) ?_
      show Steps p.tables e below (T40.setTop (mkF m 96 #[.val (.int p1), .val (.int (1 : Int32)), .val (.ref b2), .val (.ref b21), .val (.ref a_WARNING)] [(.int (1 : Int32))])) _
      refine XS.goto X40.here hx rfl (pc0 := 96) (pc' := 100) rfl (hb hby at_96) (by decide) (by decide) ?_
      exact k)
    obtain ⟨fs, hr, hrun, hended, hW, hsame⟩ := X40.leave (v := some (.int (nar .boolean (1 : Int32)))) (fun h => by rw [Bd.returns] at h; cases h)
    refine ⟨_, _, pre42 _ ?_, hrun, hended, _, _, rfl, ?_, ⟨_, rfl⟩, hW, hsame.mono (by decide) (by decide)⟩
    · show Steps p.tables e below (T40.setTop (mkF m 100 #[.val (.int p1), .val (.int (1 : Int32)), .val (.ref b2), .val (.ref b21), .val (.ref a_WARNING)] [(.int (1 : Int32))])) _
      exact retN X40 hx (t := .boolean) Bd.returns (by simp) (hb hby at_100) hr
    · show QL n0 _ T40.heap _
      rw [e40]
      exact ⟨rfl, N40⟩
  · subst hk
    obtain ⟨cl43, Ar43, q43, S43, M43, H43, G43⟩ := id V33_0
    have hin43 : ¬ ((2 : Int32) < 0 ∨ cl43.slots.size ≤ ((2 : Int32)).toNatClampNeg) := inb_of S43 ⟨by decide, by decide⟩
    have hat43 : cl43.slots[((2 : Int32)).toNatClampNeg]? = some (.ref a_INCORRECT) := Has.at H43 hin43 rfl
    obtain ⟨cq44, kq44, q44a, q44b, q44c⟩ := isOf hZ e33 X33_2
    obtain ⟨_, _, ⟨T44, L44, k44, n44⟩, -, X44, ⟨Lc44, hQ44, l44, y44, z44⟩, st44⟩ := X33.virtualBack hx (y := (⟨"com/example/fapiao_lens/fapiaolens/Status", "needsNoReview", "()Z"⟩ : MethodName)) (z := (⟨"com/example/fapiao_lens/fapiaolens/Status", "needsNoReview", "()Z"⟩ : MethodName)) hown (mvT hZ (hw _ (List.mem_of_getElem? (i := 18) rfl))) (mvT hZ (hw _ (List.mem_of_getElem? (i := 19) rfl))) (notFace_of_selects (args := #[]) (mvT hZ (hw _ (List.mem_of_getElem? (i := 21) rfl)))) (mvT hZ (hw _ (List.mem_of_getElem? (i := 21) rfl))) (mvT hZ (hw _ (List.mem_of_getElem? (i := 20) rfl))) (by decide) (backOf (W := 0) (rm2_2 l Z a0 hw []  a_CORRECT a_WARNING a_INCORRECT a_MISSING a_ABSENT a_CONFIRMED h33 n0 z33 S33_0 X33_0 S33_1 X33_1 S33_2 X33_2 S33_3 X33_3 S33_4 X33_4 S33_5 X33_5 F33_0 F33_1 F33_2 F33_3 F33_4 F33_5) hZ (hw _ (List.mem_of_getElem? (i := 22) rfl)) (hw _ (List.mem_of_getElem? (i := 4) rfl)) (by decide) (by decide)) q44a q44c (g := (mkF m 86 #[.val (.int p1), .val (.int (2 : Int32)), .val (.ref b2), .val (.ref b21), .val (.ref a_INCORRECT)] [(.ref a_INCORRECT)])) rfl (by rw [hml]; rfl) (Steps.refl _) (argsL := []) (rest := []) (lenOf own_pd0 rfl) rfl (by show 2 * 0 + _ ≤ _; exact Nat.le_of_eq rfl) (hb hby at_86) (fun _ _ => ⟨rfl, e33, (by decide : 2 + 0 ≤ _), (by decide : 12 + 0 ≤ _)⟩)
    dsimp only [Pt.U, Pt.locs, Pt.cells, Pt.slots] at X44 l44 y44 z44 st44 hQ44
    subst l44 y44 z44
    obtain ⟨rfl, N44q, e44⟩ := hQ44
    have N44 := Fr.app N33 N44q
    obtain ⟨cl45, Ar45, q45, S45, M45, H45, G45⟩ := id V_b21_33
    have hin45 : ¬ ((2 : Int32) < 0 ∨ cl45.slots.size ≤ ((2 : Int32)).toNatClampNeg) := inb_of S45 ⟨by decide, by decide⟩
    have hat45 : cl45.slots[((2 : Int32)).toNatClampNeg]? = some (.int (0 : Int32)) := Has.at H45 hin45 rfl
    have pre46 : ∀ t, Steps p.tables e below (T44.setTop (mkF m 100 #[.val (.int p1), .val (.int (2 : Int32)), .val (.ref b2), .val (.ref b21), .val (.ref a_INCORRECT)] [(.int (1 : Int32))])) t → Steps p.tables e below (s₁.setTop (entryFrame m #[(.int p1)] maxLocals)) t := fun t k => pre34 t (by
      show Steps p.tables e below (T33.setTop (mkF m 81 #[.val (.int p1), .val (.int (2 : Int32)), .val (.ref b2), .val (.ref b21), .unset] [(.int (2 : Int32)), (.ref b2)])) _
      refine X33.aaload hx (j := (2 : Int32)) (v := (.ref a_INCORRECT)) (by rw [e33]; exact Ar43.1) (State.isArrayOf_alike hZ.alike Ar43.2.1) rfl Ar43.2.2 hin43 hat43 (g := (mkF m 81 #[.val (.int p1), .val (.int (2 : Int32)), .val (.ref b2), .val (.ref b21), .unset] [(.int (2 : Int32)), (.ref b2)])) rfl rfl (hb hby at_81) _ ?_
      show Steps p.tables e below (T33.setTop (mkF m 82 #[.val (.int p1), .val (.int (2 : Int32)), .val (.ref b2), .val (.ref b21), .unset] [(.ref a_INCORRECT)])) _
      refine XS.astore X33.here hx rfl (hb hby at_82) rfl rfl (l' := #[.val (.int p1), .val (.int (2 : Int32)), .val (.ref b2), .val (.ref b21), .val (.ref a_INCORRECT)]) rfl ?_
      show Steps p.tables e below (T33.setTop (mkF m 84 #[.val (.int p1), .val (.int (2 : Int32)), .val (.ref b2), .val (.ref b21), .val (.ref a_INCORRECT)] [])) _
      refine XS.aload X33.here hx rfl (hb hby at_84) rfl rfl ?_
      show Steps p.tables e below (T33.setTop (mkF m 86 #[.val (.int p1), .val (.int (2 : Int32)), .val (.ref b2), .val (.ref b21), .val (.ref a_INCORRECT)] [(.ref a_INCORRECT)])) _
      refine st44.trans ?_
      show Steps p.tables e below (T44.setTop (mkF m 89 #[.val (.int p1), .val (.int (2 : Int32)), .val (.ref b2), .val (.ref b21), .val (.ref a_INCORRECT)] [(.int (0 : Int32))])) _
      refine XS.aloadN X44.here hx rfl (hb hby at_89) rfl rfl ?_
      show Steps p.tables e below (T44.setTop (mkF m 90 #[.val (.int p1), .val (.int (2 : Int32)), .val (.ref b2), .val (.ref b21), .val (.ref a_INCORRECT)] [(.ref b21), (.int (0 : Int32))])) _
      refine XS.iloadN X44.here hx rfl (hb hby at_90) rfl ?_
      show Steps p.tables e below (T44.setTop (mkF m 91 #[.val (.int p1), .val (.int (2 : Int32)), .val (.ref b2), .val (.ref b21), .val (.ref a_INCORRECT)] [(.int (2 : Int32)), (.ref b21), (.int (0 : Int32))])) _
      refine X44.baloadBooleans hx (j := (2 : Int32)) (v := (.int (0 : Int32))) (by rw [e44]; exact Ar45.1) (State.isArrayOf_alike hZ.alike Ar45.2.1) Ar45.2.2 hin45 hat45 (g := (mkF m 91 #[.val (.int p1), .val (.int (2 : Int32)), .val (.ref b2), .val (.ref b21), .val (.ref a_INCORRECT)] [(.int (2 : Int32)), (.ref b21), (.int (0 : Int32))])) rfl rfl (hb hby at_91) _ ?_
      show Steps p.tables e below (T44.setTop (mkF m 92 #[.val (.int p1), .val (.int (2 : Int32)), .val (.ref b2), .val (.ref b21), .val (.ref a_INCORRECT)] [(.int (0 : Int32)), (.int (0 : Int32))])) _
      refine XS.icmpNo X44.here hx rfl (hb hby at_92) rfl (teq ((by decide) : (0 : Int32) = (0 : Int32))).2 ?_
      show Steps p.tables e below (T44.setTop (mkF m 95 #[.val (.int p1), .val (.int (2 : Int32)), .val (.ref b2), .val (.ref b21), .val (.ref a_INCORRECT)] [])) _
      refine XS.iconst X44.here hx rfl (hb hby at_95) ?_
      show Steps p.tables e below (T44.setTop (mkF m 96 #[.val (.int p1), .val (.int (2 : Int32)), .val (.ref b2), .val (.ref b21), .val (.ref a_INCORRECT)] [(.int (1 : Int32))])) _
      refine XS.goto X44.here hx rfl (pc0 := 96) (pc' := 100) rfl (hb hby at_96) (by decide) (by decide) ?_
      exact k)
    obtain ⟨fs, hr, hrun, hended, hW, hsame⟩ := X44.leave (v := some (.int (nar .boolean (1 : Int32)))) (fun h => by rw [Bd.returns] at h; cases h)
    refine ⟨_, _, pre46 _ ?_, hrun, hended, _, _, rfl, ?_, ⟨_, rfl⟩, hW, hsame.mono (by decide) (by decide)⟩
    · show Steps p.tables e below (T44.setTop (mkF m 100 #[.val (.int p1), .val (.int (2 : Int32)), .val (.ref b2), .val (.ref b21), .val (.ref a_INCORRECT)] [(.int (1 : Int32))])) _
      exact retN X44 hx (t := .boolean) Bd.returns (by simp) (hb hby at_100) hr
    · show QL n0 _ T44.heap _
      rw [e44]
      exact ⟨rfl, N44⟩
  · subst hk
    obtain ⟨cl47, Ar47, q47, S47, M47, H47, G47⟩ := id V33_0
    have hin47 : ¬ ((3 : Int32) < 0 ∨ cl47.slots.size ≤ ((3 : Int32)).toNatClampNeg) := inb_of S47 ⟨by decide, by decide⟩
    have hat47 : cl47.slots[((3 : Int32)).toNatClampNeg]? = some (.ref a_MISSING) := Has.at H47 hin47 rfl
    obtain ⟨cq48, kq48, q48a, q48b, q48c⟩ := isOf hZ e33 X33_3
    obtain ⟨_, _, ⟨T48, L48, k48, n48⟩, -, X48, ⟨Lc48, hQ48, l48, y48, z48⟩, st48⟩ := X33.virtualBack hx (y := (⟨"com/example/fapiao_lens/fapiaolens/Status", "needsNoReview", "()Z"⟩ : MethodName)) (z := (⟨"com/example/fapiao_lens/fapiaolens/Status", "needsNoReview", "()Z"⟩ : MethodName)) hown (mvT hZ (hw _ (List.mem_of_getElem? (i := 18) rfl))) (mvT hZ (hw _ (List.mem_of_getElem? (i := 19) rfl))) (notFace_of_selects (args := #[]) (mvT hZ (hw _ (List.mem_of_getElem? (i := 21) rfl)))) (mvT hZ (hw _ (List.mem_of_getElem? (i := 21) rfl))) (mvT hZ (hw _ (List.mem_of_getElem? (i := 20) rfl))) (by decide) (backOf (W := 0) (rm2_3 l Z a0 hw []  a_CORRECT a_WARNING a_INCORRECT a_MISSING a_ABSENT a_CONFIRMED h33 n0 z33 S33_0 X33_0 S33_1 X33_1 S33_2 X33_2 S33_3 X33_3 S33_4 X33_4 S33_5 X33_5 F33_0 F33_1 F33_2 F33_3 F33_4 F33_5) hZ (hw _ (List.mem_of_getElem? (i := 22) rfl)) (hw _ (List.mem_of_getElem? (i := 4) rfl)) (by decide) (by decide)) q48a q48c (g := (mkF m 86 #[.val (.int p1), .val (.int (3 : Int32)), .val (.ref b2), .val (.ref b21), .val (.ref a_MISSING)] [(.ref a_MISSING)])) rfl (by rw [hml]; rfl) (Steps.refl _) (argsL := []) (rest := []) (lenOf own_pd0 rfl) rfl (by show 2 * 0 + _ ≤ _; exact Nat.le_of_eq rfl) (hb hby at_86) (fun _ _ => ⟨rfl, e33, (by decide : 2 + 0 ≤ _), (by decide : 12 + 0 ≤ _)⟩)
    dsimp only [Pt.U, Pt.locs, Pt.cells, Pt.slots] at X48 l48 y48 z48 st48 hQ48
    subst l48 y48 z48
    obtain ⟨rfl, N48q, e48⟩ := hQ48
    have N48 := Fr.app N33 N48q
    obtain ⟨cl49, Ar49, q49, S49, M49, H49, G49⟩ := id V_b21_33
    have hin49 : ¬ ((3 : Int32) < 0 ∨ cl49.slots.size ≤ ((3 : Int32)).toNatClampNeg) := inb_of S49 ⟨by decide, by decide⟩
    have hat49 : cl49.slots[((3 : Int32)).toNatClampNeg]? = some (.int (0 : Int32)) := Has.at H49 hin49 rfl
    have pre50 : ∀ t, Steps p.tables e below (T48.setTop (mkF m 100 #[.val (.int p1), .val (.int (3 : Int32)), .val (.ref b2), .val (.ref b21), .val (.ref a_MISSING)] [(.int (1 : Int32))])) t → Steps p.tables e below (s₁.setTop (entryFrame m #[(.int p1)] maxLocals)) t := fun t k => pre34 t (by
      show Steps p.tables e below (T33.setTop (mkF m 81 #[.val (.int p1), .val (.int (3 : Int32)), .val (.ref b2), .val (.ref b21), .unset] [(.int (3 : Int32)), (.ref b2)])) _
      refine X33.aaload hx (j := (3 : Int32)) (v := (.ref a_MISSING)) (by rw [e33]; exact Ar47.1) (State.isArrayOf_alike hZ.alike Ar47.2.1) rfl Ar47.2.2 hin47 hat47 (g := (mkF m 81 #[.val (.int p1), .val (.int (3 : Int32)), .val (.ref b2), .val (.ref b21), .unset] [(.int (3 : Int32)), (.ref b2)])) rfl rfl (hb hby at_81) _ ?_
      show Steps p.tables e below (T33.setTop (mkF m 82 #[.val (.int p1), .val (.int (3 : Int32)), .val (.ref b2), .val (.ref b21), .unset] [(.ref a_MISSING)])) _
      refine XS.astore X33.here hx rfl (hb hby at_82) rfl rfl (l' := #[.val (.int p1), .val (.int (3 : Int32)), .val (.ref b2), .val (.ref b21), .val (.ref a_MISSING)]) rfl ?_
      show Steps p.tables e below (T33.setTop (mkF m 84 #[.val (.int p1), .val (.int (3 : Int32)), .val (.ref b2), .val (.ref b21), .val (.ref a_MISSING)] [])) _
      refine XS.aload X33.here hx rfl (hb hby at_84) rfl rfl ?_
      show Steps p.tables e below (T33.setTop (mkF m 86 #[.val (.int p1), .val (.int (3 : Int32)), .val (.ref b2), .val (.ref b21), .val (.ref a_MISSING)] [(.ref a_MISSING)])) _
      refine st48.trans ?_
      show Steps p.tables e below (T48.setTop (mkF m 89 #[.val (.int p1), .val (.int (3 : Int32)), .val (.ref b2), .val (.ref b21), .val (.ref a_MISSING)] [(.int (0 : Int32))])) _
      refine XS.aloadN X48.here hx rfl (hb hby at_89) rfl rfl ?_
      show Steps p.tables e below (T48.setTop (mkF m 90 #[.val (.int p1), .val (.int (3 : Int32)), .val (.ref b2), .val (.ref b21), .val (.ref a_MISSING)] [(.ref b21), (.int (0 : Int32))])) _
      refine XS.iloadN X48.here hx rfl (hb hby at_90) rfl ?_
      show Steps p.tables e below (T48.setTop (mkF m 91 #[.val (.int p1), .val (.int (3 : Int32)), .val (.ref b2), .val (.ref b21), .val (.ref a_MISSING)] [(.int (3 : Int32)), (.ref b21), (.int (0 : Int32))])) _
      refine X48.baloadBooleans hx (j := (3 : Int32)) (v := (.int (0 : Int32))) (by rw [e48]; exact Ar49.1) (State.isArrayOf_alike hZ.alike Ar49.2.1) Ar49.2.2 hin49 hat49 (g := (mkF m 91 #[.val (.int p1), .val (.int (3 : Int32)), .val (.ref b2), .val (.ref b21), .val (.ref a_MISSING)] [(.int (3 : Int32)), (.ref b21), (.int (0 : Int32))])) rfl rfl (hb hby at_91) _ ?_
      show Steps p.tables e below (T48.setTop (mkF m 92 #[.val (.int p1), .val (.int (3 : Int32)), .val (.ref b2), .val (.ref b21), .val (.ref a_MISSING)] [(.int (0 : Int32)), (.int (0 : Int32))])) _
      refine XS.icmpNo X48.here hx rfl (hb hby at_92) rfl (teq ((by decide) : (0 : Int32) = (0 : Int32))).2 ?_
      show Steps p.tables e below (T48.setTop (mkF m 95 #[.val (.int p1), .val (.int (3 : Int32)), .val (.ref b2), .val (.ref b21), .val (.ref a_MISSING)] [])) _
      refine XS.iconst X48.here hx rfl (hb hby at_95) ?_
      show Steps p.tables e below (T48.setTop (mkF m 96 #[.val (.int p1), .val (.int (3 : Int32)), .val (.ref b2), .val (.ref b21), .val (.ref a_MISSING)] [(.int (1 : Int32))])) _
      refine XS.goto X48.here hx rfl (pc0 := 96) (pc' := 100) rfl (hb hby at_96) (by decide) (by decide) ?_
      exact k)
    obtain ⟨fs, hr, hrun, hended, hW, hsame⟩ := X48.leave (v := some (.int (nar .boolean (1 : Int32)))) (fun h => by rw [Bd.returns] at h; cases h)
    refine ⟨_, _, pre50 _ ?_, hrun, hended, _, _, rfl, ?_, ⟨_, rfl⟩, hW, hsame.mono (by decide) (by decide)⟩
    · show Steps p.tables e below (T48.setTop (mkF m 100 #[.val (.int p1), .val (.int (3 : Int32)), .val (.ref b2), .val (.ref b21), .val (.ref a_MISSING)] [(.int (1 : Int32))])) _
      exact retN X48 hx (t := .boolean) Bd.returns (by simp) (hb hby at_100) hr
    · show QL n0 _ T48.heap _
      rw [e48]
      exact ⟨rfl, N48⟩
  · subst hk
    obtain ⟨cl51, Ar51, q51, S51, M51, H51, G51⟩ := id V33_0
    have hin51 : ¬ ((4 : Int32) < 0 ∨ cl51.slots.size ≤ ((4 : Int32)).toNatClampNeg) := inb_of S51 ⟨by decide, by decide⟩
    have hat51 : cl51.slots[((4 : Int32)).toNatClampNeg]? = some (.ref a_ABSENT) := Has.at H51 hin51 rfl
    obtain ⟨cq52, kq52, q52a, q52b, q52c⟩ := isOf hZ e33 X33_4
    obtain ⟨_, _, ⟨T52, L52, k52, n52⟩, -, X52, ⟨Lc52, hQ52, l52, y52, z52⟩, st52⟩ := X33.virtualBack hx (y := (⟨"com/example/fapiao_lens/fapiaolens/Status", "needsNoReview", "()Z"⟩ : MethodName)) (z := (⟨"com/example/fapiao_lens/fapiaolens/Status", "needsNoReview", "()Z"⟩ : MethodName)) hown (mvT hZ (hw _ (List.mem_of_getElem? (i := 18) rfl))) (mvT hZ (hw _ (List.mem_of_getElem? (i := 19) rfl))) (notFace_of_selects (args := #[]) (mvT hZ (hw _ (List.mem_of_getElem? (i := 21) rfl)))) (mvT hZ (hw _ (List.mem_of_getElem? (i := 21) rfl))) (mvT hZ (hw _ (List.mem_of_getElem? (i := 20) rfl))) (by decide) (backOf (W := 0) (rm2_4 l Z a0 hw []  a_CORRECT a_WARNING a_INCORRECT a_MISSING a_ABSENT a_CONFIRMED h33 n0 z33 S33_0 X33_0 S33_1 X33_1 S33_2 X33_2 S33_3 X33_3 S33_4 X33_4 S33_5 X33_5 F33_0 F33_1 F33_2 F33_3 F33_4 F33_5) hZ (hw _ (List.mem_of_getElem? (i := 22) rfl)) (hw _ (List.mem_of_getElem? (i := 4) rfl)) (by decide) (by decide)) q52a q52c (g := (mkF m 86 #[.val (.int p1), .val (.int (4 : Int32)), .val (.ref b2), .val (.ref b21), .val (.ref a_ABSENT)] [(.ref a_ABSENT)])) rfl (by rw [hml]; rfl) (Steps.refl _) (argsL := []) (rest := []) (lenOf own_pd0 rfl) rfl (by show 2 * 0 + _ ≤ _; exact Nat.le_of_eq rfl) (hb hby at_86) (fun _ _ => ⟨rfl, e33, (by decide : 2 + 0 ≤ _), (by decide : 12 + 0 ≤ _)⟩)
    dsimp only [Pt.U, Pt.locs, Pt.cells, Pt.slots] at X52 l52 y52 z52 st52 hQ52
    subst l52 y52 z52
    obtain ⟨rfl, N52q, e52⟩ := hQ52
    have N52 := Fr.app N33 N52q
    obtain ⟨cl53, Ar53, q53, S53, M53, H53, G53⟩ := id V_b21_33
    have hin53 : ¬ ((4 : Int32) < 0 ∨ cl53.slots.size ≤ ((4 : Int32)).toNatClampNeg) := inb_of S53 ⟨by decide, by decide⟩
    have hat53 : cl53.slots[((4 : Int32)).toNatClampNeg]? = some (.int (1 : Int32)) := Has.at H53 hin53 rfl
    have pre54 : ∀ t, Steps p.tables e below (T52.setTop (mkF m 100 #[.val (.int p1), .val (.int (4 : Int32)), .val (.ref b2), .val (.ref b21), .val (.ref a_ABSENT)] [(.int (1 : Int32))])) t → Steps p.tables e below (s₁.setTop (entryFrame m #[(.int p1)] maxLocals)) t := fun t k => pre34 t (by
      show Steps p.tables e below (T33.setTop (mkF m 81 #[.val (.int p1), .val (.int (4 : Int32)), .val (.ref b2), .val (.ref b21), .unset] [(.int (4 : Int32)), (.ref b2)])) _
      refine X33.aaload hx (j := (4 : Int32)) (v := (.ref a_ABSENT)) (by rw [e33]; exact Ar51.1) (State.isArrayOf_alike hZ.alike Ar51.2.1) rfl Ar51.2.2 hin51 hat51 (g := (mkF m 81 #[.val (.int p1), .val (.int (4 : Int32)), .val (.ref b2), .val (.ref b21), .unset] [(.int (4 : Int32)), (.ref b2)])) rfl rfl (hb hby at_81) _ ?_
      show Steps p.tables e below (T33.setTop (mkF m 82 #[.val (.int p1), .val (.int (4 : Int32)), .val (.ref b2), .val (.ref b21), .unset] [(.ref a_ABSENT)])) _
      refine XS.astore X33.here hx rfl (hb hby at_82) rfl rfl (l' := #[.val (.int p1), .val (.int (4 : Int32)), .val (.ref b2), .val (.ref b21), .val (.ref a_ABSENT)]) rfl ?_
      show Steps p.tables e below (T33.setTop (mkF m 84 #[.val (.int p1), .val (.int (4 : Int32)), .val (.ref b2), .val (.ref b21), .val (.ref a_ABSENT)] [])) _
      refine XS.aload X33.here hx rfl (hb hby at_84) rfl rfl ?_
      show Steps p.tables e below (T33.setTop (mkF m 86 #[.val (.int p1), .val (.int (4 : Int32)), .val (.ref b2), .val (.ref b21), .val (.ref a_ABSENT)] [(.ref a_ABSENT)])) _
      refine st52.trans ?_
      show Steps p.tables e below (T52.setTop (mkF m 89 #[.val (.int p1), .val (.int (4 : Int32)), .val (.ref b2), .val (.ref b21), .val (.ref a_ABSENT)] [(.int (1 : Int32))])) _
      refine XS.aloadN X52.here hx rfl (hb hby at_89) rfl rfl ?_
      show Steps p.tables e below (T52.setTop (mkF m 90 #[.val (.int p1), .val (.int (4 : Int32)), .val (.ref b2), .val (.ref b21), .val (.ref a_ABSENT)] [(.ref b21), (.int (1 : Int32))])) _
      refine XS.iloadN X52.here hx rfl (hb hby at_90) rfl ?_
      show Steps p.tables e below (T52.setTop (mkF m 91 #[.val (.int p1), .val (.int (4 : Int32)), .val (.ref b2), .val (.ref b21), .val (.ref a_ABSENT)] [(.int (4 : Int32)), (.ref b21), (.int (1 : Int32))])) _
      refine X52.baloadBooleans hx (j := (4 : Int32)) (v := (.int (1 : Int32))) (by rw [e52]; exact Ar53.1) (State.isArrayOf_alike hZ.alike Ar53.2.1) Ar53.2.2 hin53 hat53 (g := (mkF m 91 #[.val (.int p1), .val (.int (4 : Int32)), .val (.ref b2), .val (.ref b21), .val (.ref a_ABSENT)] [(.int (4 : Int32)), (.ref b21), (.int (1 : Int32))])) rfl rfl (hb hby at_91) _ ?_
      show Steps p.tables e below (T52.setTop (mkF m 92 #[.val (.int p1), .val (.int (4 : Int32)), .val (.ref b2), .val (.ref b21), .val (.ref a_ABSENT)] [(.int (1 : Int32)), (.int (1 : Int32))])) _
      refine XS.icmpNo X52.here hx rfl (hb hby at_92) rfl (teq ((by decide) : (1 : Int32) = (1 : Int32))).2 ?_
      show Steps p.tables e below (T52.setTop (mkF m 95 #[.val (.int p1), .val (.int (4 : Int32)), .val (.ref b2), .val (.ref b21), .val (.ref a_ABSENT)] [])) _
      refine XS.iconst X52.here hx rfl (hb hby at_95) ?_
      show Steps p.tables e below (T52.setTop (mkF m 96 #[.val (.int p1), .val (.int (4 : Int32)), .val (.ref b2), .val (.ref b21), .val (.ref a_ABSENT)] [(.int (1 : Int32))])) _
      refine XS.goto X52.here hx rfl (pc0 := 96) (pc' := 100) rfl (hb hby at_96) (by decide) (by decide) ?_
      exact k)
    obtain ⟨fs, hr, hrun, hended, hW, hsame⟩ := X52.leave (v := some (.int (nar .boolean (1 : Int32)))) (fun h => by rw [Bd.returns] at h; cases h)
    refine ⟨_, _, pre54 _ ?_, hrun, hended, _, _, rfl, ?_, ⟨_, rfl⟩, hW, hsame.mono (by decide) (by decide)⟩
    · show Steps p.tables e below (T52.setTop (mkF m 100 #[.val (.int p1), .val (.int (4 : Int32)), .val (.ref b2), .val (.ref b21), .val (.ref a_ABSENT)] [(.int (1 : Int32))])) _
      exact retN X52 hx (t := .boolean) Bd.returns (by simp) (hb hby at_100) hr
    · show QL n0 _ T52.heap _
      rw [e52]
      exact ⟨rfl, N52⟩
  · subst hk
    obtain ⟨cl55, Ar55, q55, S55, M55, H55, G55⟩ := id V33_0
    have hin55 : ¬ ((5 : Int32) < 0 ∨ cl55.slots.size ≤ ((5 : Int32)).toNatClampNeg) := inb_of S55 ⟨by decide, by decide⟩
    have hat55 : cl55.slots[((5 : Int32)).toNatClampNeg]? = some (.ref a_CONFIRMED) := Has.at H55 hin55 rfl
    obtain ⟨cq56, kq56, q56a, q56b, q56c⟩ := isOf hZ e33 X33_5
    obtain ⟨_, _, ⟨T56, L56, k56, n56⟩, -, X56, ⟨Lc56, hQ56, l56, y56, z56⟩, st56⟩ := X33.virtualBack hx (y := (⟨"com/example/fapiao_lens/fapiaolens/Status", "needsNoReview", "()Z"⟩ : MethodName)) (z := (⟨"com/example/fapiao_lens/fapiaolens/Status", "needsNoReview", "()Z"⟩ : MethodName)) hown (mvT hZ (hw _ (List.mem_of_getElem? (i := 18) rfl))) (mvT hZ (hw _ (List.mem_of_getElem? (i := 19) rfl))) (notFace_of_selects (args := #[]) (mvT hZ (hw _ (List.mem_of_getElem? (i := 21) rfl)))) (mvT hZ (hw _ (List.mem_of_getElem? (i := 21) rfl))) (mvT hZ (hw _ (List.mem_of_getElem? (i := 20) rfl))) (by decide) (backOf (W := 0) (rm2_5 l Z a0 hw []  a_CORRECT a_WARNING a_INCORRECT a_MISSING a_ABSENT a_CONFIRMED h33 n0 z33 S33_0 X33_0 S33_1 X33_1 S33_2 X33_2 S33_3 X33_3 S33_4 X33_4 S33_5 X33_5 F33_0 F33_1 F33_2 F33_3 F33_4 F33_5) hZ (hw _ (List.mem_of_getElem? (i := 22) rfl)) (hw _ (List.mem_of_getElem? (i := 4) rfl)) (by decide) (by decide)) q56a q56c (g := (mkF m 86 #[.val (.int p1), .val (.int (5 : Int32)), .val (.ref b2), .val (.ref b21), .val (.ref a_CONFIRMED)] [(.ref a_CONFIRMED)])) rfl (by rw [hml]; rfl) (Steps.refl _) (argsL := []) (rest := []) (lenOf own_pd0 rfl) rfl (by show 2 * 0 + _ ≤ _; exact Nat.le_of_eq rfl) (hb hby at_86) (fun _ _ => ⟨rfl, e33, (by decide : 2 + 0 ≤ _), (by decide : 12 + 0 ≤ _)⟩)
    dsimp only [Pt.U, Pt.locs, Pt.cells, Pt.slots] at X56 l56 y56 z56 st56 hQ56
    subst l56 y56 z56
    obtain ⟨rfl, N56q, e56⟩ := hQ56
    have N56 := Fr.app N33 N56q
    obtain ⟨cl57, Ar57, q57, S57, M57, H57, G57⟩ := id V_b21_33
    have hin57 : ¬ ((5 : Int32) < 0 ∨ cl57.slots.size ≤ ((5 : Int32)).toNatClampNeg) := inb_of S57 ⟨by decide, by decide⟩
    have hat57 : cl57.slots[((5 : Int32)).toNatClampNeg]? = some (.int (1 : Int32)) := Has.at H57 hin57 rfl
    have pre58 : ∀ t, Steps p.tables e below (T56.setTop (mkF m 100 #[.val (.int p1), .val (.int (5 : Int32)), .val (.ref b2), .val (.ref b21), .val (.ref a_CONFIRMED)] [(.int (1 : Int32))])) t → Steps p.tables e below (s₁.setTop (entryFrame m #[(.int p1)] maxLocals)) t := fun t k => pre34 t (by
      show Steps p.tables e below (T33.setTop (mkF m 81 #[.val (.int p1), .val (.int (5 : Int32)), .val (.ref b2), .val (.ref b21), .unset] [(.int (5 : Int32)), (.ref b2)])) _
      refine X33.aaload hx (j := (5 : Int32)) (v := (.ref a_CONFIRMED)) (by rw [e33]; exact Ar55.1) (State.isArrayOf_alike hZ.alike Ar55.2.1) rfl Ar55.2.2 hin55 hat55 (g := (mkF m 81 #[.val (.int p1), .val (.int (5 : Int32)), .val (.ref b2), .val (.ref b21), .unset] [(.int (5 : Int32)), (.ref b2)])) rfl rfl (hb hby at_81) _ ?_
      show Steps p.tables e below (T33.setTop (mkF m 82 #[.val (.int p1), .val (.int (5 : Int32)), .val (.ref b2), .val (.ref b21), .unset] [(.ref a_CONFIRMED)])) _
      refine XS.astore X33.here hx rfl (hb hby at_82) rfl rfl (l' := #[.val (.int p1), .val (.int (5 : Int32)), .val (.ref b2), .val (.ref b21), .val (.ref a_CONFIRMED)]) rfl ?_
      show Steps p.tables e below (T33.setTop (mkF m 84 #[.val (.int p1), .val (.int (5 : Int32)), .val (.ref b2), .val (.ref b21), .val (.ref a_CONFIRMED)] [])) _
      refine XS.aload X33.here hx rfl (hb hby at_84) rfl rfl ?_
      show Steps p.tables e below (T33.setTop (mkF m 86 #[.val (.int p1), .val (.int (5 : Int32)), .val (.ref b2), .val (.ref b21), .val (.ref a_CONFIRMED)] [(.ref a_CONFIRMED)])) _
      refine st56.trans ?_
      show Steps p.tables e below (T56.setTop (mkF m 89 #[.val (.int p1), .val (.int (5 : Int32)), .val (.ref b2), .val (.ref b21), .val (.ref a_CONFIRMED)] [(.int (1 : Int32))])) _
      refine XS.aloadN X56.here hx rfl (hb hby at_89) rfl rfl ?_
      show Steps p.tables e below (T56.setTop (mkF m 90 #[.val (.int p1), .val (.int (5 : Int32)), .val (.ref b2), .val (.ref b21), .val (.ref a_CONFIRMED)] [(.ref b21), (.int (1 : Int32))])) _
      refine XS.iloadN X56.here hx rfl (hb hby at_90) rfl ?_
      show Steps p.tables e below (T56.setTop (mkF m 91 #[.val (.int p1), .val (.int (5 : Int32)), .val (.ref b2), .val (.ref b21), .val (.ref a_CONFIRMED)] [(.int (5 : Int32)), (.ref b21), (.int (1 : Int32))])) _
      refine X56.baloadBooleans hx (j := (5 : Int32)) (v := (.int (1 : Int32))) (by rw [e56]; exact Ar57.1) (State.isArrayOf_alike hZ.alike Ar57.2.1) Ar57.2.2 hin57 hat57 (g := (mkF m 91 #[.val (.int p1), .val (.int (5 : Int32)), .val (.ref b2), .val (.ref b21), .val (.ref a_CONFIRMED)] [(.int (5 : Int32)), (.ref b21), (.int (1 : Int32))])) rfl rfl (hb hby at_91) _ ?_
      show Steps p.tables e below (T56.setTop (mkF m 92 #[.val (.int p1), .val (.int (5 : Int32)), .val (.ref b2), .val (.ref b21), .val (.ref a_CONFIRMED)] [(.int (1 : Int32)), (.int (1 : Int32))])) _
      refine XS.icmpNo X56.here hx rfl (hb hby at_92) rfl (teq ((by decide) : (1 : Int32) = (1 : Int32))).2 ?_
      show Steps p.tables e below (T56.setTop (mkF m 95 #[.val (.int p1), .val (.int (5 : Int32)), .val (.ref b2), .val (.ref b21), .val (.ref a_CONFIRMED)] [])) _
      refine XS.iconst X56.here hx rfl (hb hby at_95) ?_
      show Steps p.tables e below (T56.setTop (mkF m 96 #[.val (.int p1), .val (.int (5 : Int32)), .val (.ref b2), .val (.ref b21), .val (.ref a_CONFIRMED)] [(.int (1 : Int32))])) _
      refine XS.goto X56.here hx rfl (pc0 := 96) (pc' := 100) rfl (hb hby at_96) (by decide) (by decide) ?_
      exact k)
    obtain ⟨fs, hr, hrun, hended, hW, hsame⟩ := X56.leave (v := some (.int (nar .boolean (1 : Int32)))) (fun h => by rw [Bd.returns] at h; cases h)
    refine ⟨_, _, pre58 _ ?_, hrun, hended, _, _, rfl, ?_, ⟨_, rfl⟩, hW, hsame.mono (by decide) (by decide)⟩
    · show Steps p.tables e below (T56.setTop (mkF m 100 #[.val (.int p1), .val (.int (5 : Int32)), .val (.ref b2), .val (.ref b21), .val (.ref a_CONFIRMED)] [(.int (1 : Int32))])) _
      exact retN X56 hx (t := .boolean) Bd.returns (by simp) (hb hby at_100) hr
    · show QL n0 _ T56.heap _
      rw [e56]
      exact ⟨rfl, N56⟩
set_option maxRecDepth 65536 in
set_option maxHeartbeats 40000000 in
theorem comes_1 {Post : Tables → Env → Array Value → State → Outcome → State → Prop} (hpost : ∀ tb e args s v u, (limb_1_1.after args s (.returned v) u = true ∧ limb_1_2.after args s (.returned v) u = true ∧ True) → FrameEnd s (.returned v) u (Jvm.fieldLocs frame_1_writes args s ++ Jvm.arrayLocs frame_1_arrays args s ++ Jvm.staticLocs frame_1_statics s) 16 128 → Post tb e args s (.returned v) u) :
    ArmFor flags0 classFile x code maxLocals ret World_1 tables_1 room_1 Calls_1 rest_1 Pre_1 Post := by
  intro l hfl _ _ p e ha hc hk s m args below hf hA hF happ hP
  obtain ⟨hcalls, hrest, hpre⟩ := hP
  obtain ⟨-, -, -, hnamed, -, -, -, hat⟩ := (Spec.applies_iff hf).mp happ
  obtain ⟨hg, hn⟩ := and_e (Cond.before_iff.mp (show (Jvm.Cond.and given_1 narrow_1).before args s = true from hpre))
  obtain ⟨gc, gr0⟩ := and_e hg
  have ga0 := gr0
  obtain ⟨w0, rfl⟩ : ∃ w0 : Value, args = #[w0] := by
    have hs : args.size = 1 := by simpa [Cond.value, given_1] using gc
    obtain ⟨L⟩ := args
    match L, hs with
    | [w0], _ => exact ⟨w0, rfl⟩
  have hw := fun d (hd : d ∈ tables_1) => atoms_spec (ws := Jvm.Cond.code x code maxLocals ret :: tables_1) hat d (List.mem_cons_of_mem _ hd)
  have hfit : Fit s := fun {y c} hc i hi => by
    obtain ⟨ha, rfl⟩ := Array.getElem?_eq_some_iff.mp hc
    have q := List.all_eq_true.mp ((Array.all_eq_true_iff_forall_mem.mp hF) _ (Array.getElem_mem ha)) i (List.mem_range.mpr hi)
    simpa [Array.getElem?_eq_getElem hi] using q
  obtain ⟨i0, ei0⟩ := is_v ga0
  obtain rfl : w0 = (.int i0) := Option.some.inj ei0
  obtain ⟨c0, r0⟩ := and_e hn
  obtain ⟨c1, r1⟩ := and_e r0
  obtain ⟨c2, r2⟩ := and_e r1
  obtain ⟨c3, r3⟩ := and_e r2
  obtain ⟨c4, r4⟩ := and_e r3
  obtain ⟨c5, r5⟩ := and_e r4
  obtain ⟨c6, r6⟩ := and_e r5
  obtain ⟨c7, r7⟩ := and_e r6
  obtain ⟨c8, r8⟩ := and_e r7
  obtain ⟨c9, r9⟩ := and_e r8
  obtain ⟨c10, r10⟩ := and_e r9
  have c11 := r10
  obtain ⟨a_CORRECT, ea_CORRECT⟩ := exa_v c0
  have S_CORRECT := Sta.start ea_CORRECT (Or.inr ⟨(hw _ (List.mem_of_getElem? (i := 4) rfl)), (hw _ (List.mem_of_getElem? (i := 5) rfl))⟩)
  have E_CORRECT := Exa.start ea_CORRECT c0
  obtain ⟨a_WARNING, ea_WARNING⟩ := exa_v c1
  have S_WARNING := Sta.start ea_WARNING (Or.inr ⟨(hw _ (List.mem_of_getElem? (i := 4) rfl)), (hw _ (List.mem_of_getElem? (i := 8) rfl))⟩)
  have E_WARNING := Exa.start ea_WARNING c1
  obtain ⟨a_INCORRECT, ea_INCORRECT⟩ := exa_v c2
  have S_INCORRECT := Sta.start ea_INCORRECT (Or.inr ⟨(hw _ (List.mem_of_getElem? (i := 4) rfl)), (hw _ (List.mem_of_getElem? (i := 10) rfl))⟩)
  have E_INCORRECT := Exa.start ea_INCORRECT c2
  obtain ⟨a_MISSING, ea_MISSING⟩ := exa_v c3
  have S_MISSING := Sta.start ea_MISSING (Or.inr ⟨(hw _ (List.mem_of_getElem? (i := 4) rfl)), (hw _ (List.mem_of_getElem? (i := 12) rfl))⟩)
  have E_MISSING := Exa.start ea_MISSING c3
  obtain ⟨a_ABSENT, ea_ABSENT⟩ := exa_v c4
  have S_ABSENT := Sta.start ea_ABSENT (Or.inr ⟨(hw _ (List.mem_of_getElem? (i := 4) rfl)), (hw _ (List.mem_of_getElem? (i := 14) rfl))⟩)
  have E_ABSENT := Exa.start ea_ABSENT c4
  obtain ⟨a_CONFIRMED, ea_CONFIRMED⟩ := exa_v c5
  have S_CONFIRMED := Sta.start ea_CONFIRMED (Or.inr ⟨(hw _ (List.mem_of_getElem? (i := 4) rfl)), (hw _ (List.mem_of_getElem? (i := 16) rfl))⟩)
  have E_CONFIRMED := Exa.start ea_CONFIRMED c5
  have F_MISSING_ordinal := own_fldI ea_MISSING c6
  have F_CORRECT_ordinal := own_fldI ea_CORRECT c7
  have F_ABSENT_ordinal := own_fldI ea_ABSENT c8
  have F_CONFIRMED_ordinal := own_fldI ea_CONFIRMED c9
  have F_INCORRECT_ordinal := own_fldI ea_INCORRECT c10
  have F_WARNING_ordinal := own_fldI ea_WARNING c11
  obtain ⟨n, o, h1, h2, h3, _, L, rfl, ⟨rfl, N⟩, hq⟩ := rm0 l s _ hw tables_1 i0 a_CORRECT a_WARNING a_INCORRECT a_MISSING a_ABSENT a_CONFIRMED s.heap s.heap.size (Nat.le_refl _) S_CORRECT E_CORRECT S_WARNING E_WARNING S_INCORRECT E_INCORRECT S_MISSING E_MISSING S_ABSENT E_ABSENT S_CONFIRMED E_CONFIRMED F_MISSING_ordinal F_CORRECT_ordinal F_ABSENT_ordinal F_CONFIRMED_ordinal F_INCORRECT_ordinal F_WARNING_ordinal p e ha hc hk s m _ below hf ((Spec.applies_iff_loose hf).mp happ).1 ⟨rfl, State.Warmed39.refl s, rfl⟩ trivial
  refine ⟨n, _, h1, h2, h3, hpost _ _ _ _ _ _ ⟨Cond.after_iff.mpr rfl, Cond.after_iff.mpr (eq_i res_at (Term.int_eval (1)) rfl), trivial⟩ ⟨hq.1, hq.2.1, (hq.2.2.sift fun y hy => Or.inr (N y hy)).mono (by decide) (by decide)⟩⟩
theorem main_1_1 : Claimed_1_1 := comes_1 fun _ _ _ _ _ _ h hF => ⟨h.1, hF⟩
theorem main_1_2 : Claimed_1_2 := comes_1 fun _ _ _ _ _ _ h hF => ⟨h.2.1, hF⟩
end Jvm.Pilot.@@N@@
namespace Jvm.Pilot.@@N@@
open Jvm Jvm.ClassFile Sem Op Lib Jvm.Free Jvm.Stand Jvm.Pilot.@@N@@.Jvm.D
/-! MADE BY PROGRAM (witnessworld.py) out of the Statement's table words and the real class files: 15 classes; the members and pool entries that the words name. The judged class is class 1, her method 1. -/
namespace start1
open Jvm.ClassFile
def u (s : String) : CpInfo := .utf8 (stringToUtf16 s)
/-- a pool by its gaps: so many unusable entries, then the entry; so many at the end -/
def gap : Nat → List CpInfo → List CpInfo
  | 0, r => r
  | n + 1, r => .unusable :: gap n r
def poolList (es : List (Nat × CpInfo)) (last : Nat) : List CpInfo := es.foldr (fun e r => gap e.1 (e.2 :: r)) (gap last [])
def pool (es : List (Nat × CpInfo)) (last : Nat) : Array CpInfo := ⟨poolList es last⟩
def fileOf (pool : Array CpInfo) (this : Nat) (attrs : Array Attribute := #[]) (ms : Array MethodInfo := #[]) (fl : Nat := 33) (sup : Nat := 0) (ifs : Array Nat := #[]) (fds : Array FieldInfo := #[]) : ClassFile where
  minorVersion := 0
  majorVersion := 65
  constantPool := pool
  accessFlags := fl
  thisClass := this
  superClass := sup
  interfaces := ifs
  fields := fds
  methods := ms
  attributes := attrs
def plain (name : String) (sup : Option ClassId) : Class where
  name := name
  kind := .ordinary
  loader := none
  accessFlags := 33
  super := sup
  interfaces := #[]
  cf := none
  fields := #[]
  methods := #[]
  instanceTypes := #[]
  staticTypes := #[]
  resolved := #[]
  callSites := []
  init := .initialized
  statics := none
  mirror := none

def pool0 : Array CpInfo := pool [(5, u "<init>"), (0, u "()V"), (1, .class_ 10), (1, u "java/lang/Object")] 113

def k0m0 : Method := { name := "<init>", desc := "()V", sig := { parameters := [], returnType := none }, accessFlags := 1, code := none }
/-- java/lang/Object -/
def k0 : Class := { plain "java/lang/Object" none with
  accessFlags := 33
  interfaces := #[]
  cf := some (fileOf pool0 8 #[] #[{ accessFlags := 1, nameIndex := 5, descriptorIndex := 6, attributes := #[] }] 33 0 #[] #[])
  fields := #[]
  methods := #[k0m0]
  instanceTypes := #[]
  staticTypes := #[]
  resolved := Array.replicate 124 none
  statics := none }

def pool1 : Array CpInfo := pool [(2, .class_ 4), (1, u "java/lang/Object"), (0, u "<init>"), (0, u "()V"), (0, .integer 2147483647), (0, .class_ 9), (0, u "com/example/fapiao_lens/fapiaolens/Status"), (0, .fieldref 8 11), (0, .nameAndType 12 13), (0, u "CORRECT"), (0, u "Lcom/example/fapiao_lens/fapiaolens/Status;"), (0, .fieldref 8 15), (0, .nameAndType 16 13), (0, u "WARNING"), (0, .fieldref 8 18), (0, .nameAndType 19 13), (0, u "INCORRECT"), (0, .fieldref 8 21), (0, .nameAndType 22 13), (0, u "MISSING"), (0, .fieldref 8 24), (0, .nameAndType 25 13), (0, u "ABSENT"), (0, .fieldref 8 27), (0, .nameAndType 28 13), (0, u "CONFIRMED"), (0, .methodref 8 30), (0, .nameAndType 31 32), (0, u "needsNoReview"), (0, u "()Z"), (0, .class_ 34), (0, u "com/example/fapiao_lens/fapiaolens/StatusNeedsNoReviewPinLaw"), (2, u "law"), (0, u "(I)Z")] 7

def k1m0 : Method := { name := "<init>", desc := "()V", sig := { parameters := [], returnType := none }, accessFlags := 1, code := none }
def k1c1 : Code := { maxStack := 4, maxLocals := 5, code := code, exceptionTable := #[], attributes := #[] }
def k1m1 : Method := { name := "law", desc := "(I)Z", sig := { parameters := [.int], returnType := some .boolean }, accessFlags := 9, code := some k1c1 }
/-- com/example/fapiao_lens/fapiaolens/StatusNeedsNoReviewPinLaw -/
def k1 : Class := { plain "com/example/fapiao_lens/fapiaolens/StatusNeedsNoReviewPinLaw" (some 0) with
  accessFlags := 49
  interfaces := #[]
  cf := some (fileOf pool1 33 #[] #[{ accessFlags := 1, nameIndex := 5, descriptorIndex := 6, attributes := #[] }, { accessFlags := 9, nameIndex := 37, descriptorIndex := 38, attributes := #[] }] 49 2 #[] #[])
  fields := #[]
  methods := #[k1m0, k1m1]
  instanceTypes := #[]
  staticTypes := #[]
  resolved := Array.replicate 46 none
  statics := none }

def pool2 : Array CpInfo := pool [(1, .class_ 2), (0, u "java/lang/constant/Constable"), (0, .class_ 4), (0, u "java/lang/Object")] 6

/-- java/lang/constant/Constable -/
def k2 : Class := { plain "java/lang/constant/Constable" (some 0) with
  accessFlags := 1537
  interfaces := #[]
  cf := some (fileOf pool2 1 #[] #[] 1537 3 #[] #[])
  fields := #[]
  methods := #[]
  instanceTypes := #[]
  staticTypes := #[]
  resolved := Array.replicate 11 none
  statics := none }

def pool3 : Array CpInfo := pool [(1, .class_ 2), (0, u "java/lang/Comparable"), (0, .class_ 4), (0, u "java/lang/Object")] 7

/-- java/lang/Comparable -/
def k3 : Class := { plain "java/lang/Comparable" (some 0) with
  accessFlags := 1537
  interfaces := #[]
  cf := some (fileOf pool3 1 #[] #[] 1537 3 #[] #[])
  fields := #[]
  methods := #[]
  instanceTypes := #[]
  staticTypes := #[]
  resolved := Array.replicate 12 none
  statics := none }

def pool4 : Array CpInfo := pool [(1, .class_ 2), (0, u "java/io/Serializable"), (0, .class_ 4), (0, u "java/lang/Object")] 2

/-- java/io/Serializable -/
def k4 : Class := { plain "java/io/Serializable" (some 0) with
  accessFlags := 1537
  interfaces := #[]
  cf := some (fileOf pool4 1 #[] #[] 1537 3 #[] #[])
  fields := #[]
  methods := #[]
  instanceTypes := #[]
  staticTypes := #[]
  resolved := Array.replicate 7 none
  statics := none }

def pool5 : Array CpInfo := pool [(2, .class_ 4), (1, u "java/lang/Enum"), (0, u "name"), (0, u "Ljava/lang/String;"), (2, u "ordinal"), (0, u "I"), (1, .class_ 14), (1, u "java/lang/Object"), (4, u "hash"), (86, .class_ 108), (1, u "java/lang/Enum$EnumDesc"), (2, .class_ 112), (0, u "java/lang/constant/Constable"), (0, .class_ 114), (0, u "java/lang/Comparable"), (0, .class_ 116), (0, u "java/io/Serializable")] 87

/-- java/lang/Enum -/
def k5 : Class := { plain "java/lang/Enum" (some 0) with
  accessFlags := 1057
  interfaces := #[2, 3, 4]
  cf := some (fileOf pool5 2 #[.nestMembers #[106]] #[] 1057 12 #[111, 113, 115] #[{ accessFlags := 18, nameIndex := 5, descriptorIndex := 6, attributes := #[] }, { accessFlags := 18, nameIndex := 9, descriptorIndex := 10, attributes := #[] }, { accessFlags := 2, nameIndex := 19, descriptorIndex := 10, attributes := #[] }])
  fields := #[{ name := "name", type := (.object "java/lang/String"), accessFlags := 18, slot := 0, constantValue := 0 }, { name := "ordinal", type := .int, accessFlags := 18, slot := 1, constantValue := 0 }, { name := "hash", type := .int, accessFlags := 2, slot := 2, constantValue := 0 }]
  methods := #[]
  instanceTypes := #[(.object "java/lang/String"), .int, .int]
  staticTypes := #[]
  resolved := Array.replicate 204 none
  statics := none }

def pool6 : Array CpInfo := pool [(1, .class_ 2), (0, u "com/example/fapiao_lens/fapiaolens/Status"), (0, .fieldref 1 4), (0, .nameAndType 5 6), (0, u "CORRECT"), (0, u "Lcom/example/fapiao_lens/fapiaolens/Status;"), (2, u "WARNING"), (2, u "INCORRECT"), (2, u "MISSING"), (0, .fieldref 1 17), (0, .nameAndType 18 6), (0, u "ABSENT"), (0, .fieldref 1 20), (0, .nameAndType 21 6), (0, u "CONFIRMED"), (2, u "$VALUES"), (0, u "[Lcom/example/fapiao_lens/fapiaolens/Status;"), (6, .class_ 34), (1, u "java/lang/Enum"), (61, u "()Z"), (0, u "needsNoReview")] 19

def k6c0 : Code := { maxStack := 2, maxLocals := 1, code := prog_59_method_7_code, exceptionTable := #[], attributes := #[] }
def k6m0 : Method := { name := "needsNoReview", desc := "()Z", sig := { parameters := [], returnType := some .boolean }, accessFlags := 1, code := some k6c0 }
/-- com/example/fapiao_lens/fapiaolens/Status -/
def k6 : Class := { plain "com/example/fapiao_lens/fapiaolens/Status" (some 5) with
  accessFlags := 16433
  interfaces := #[]
  cf := some (fileOf pool6 1 #[] #[{ accessFlags := 1, nameIndex := 97, descriptorIndex := 96, attributes := #[] }] 16433 32 #[] #[{ accessFlags := 16409, nameIndex := 5, descriptorIndex := 6, attributes := #[] }, { accessFlags := 16409, nameIndex := 9, descriptorIndex := 6, attributes := #[] }, { accessFlags := 16409, nameIndex := 12, descriptorIndex := 6, attributes := #[] }, { accessFlags := 16409, nameIndex := 15, descriptorIndex := 6, attributes := #[] }, { accessFlags := 16409, nameIndex := 18, descriptorIndex := 6, attributes := #[] }, { accessFlags := 16409, nameIndex := 21, descriptorIndex := 6, attributes := #[] }, { accessFlags := 4122, nameIndex := 24, descriptorIndex := 25, attributes := #[] }])
  fields := #[{ name := "CORRECT", type := (.object "com/example/fapiao_lens/fapiaolens/Status"), accessFlags := 16409, slot := 0, constantValue := 0 }, { name := "WARNING", type := (.object "com/example/fapiao_lens/fapiaolens/Status"), accessFlags := 16409, slot := 1, constantValue := 0 }, { name := "INCORRECT", type := (.object "com/example/fapiao_lens/fapiaolens/Status"), accessFlags := 16409, slot := 2, constantValue := 0 }, { name := "MISSING", type := (.object "com/example/fapiao_lens/fapiaolens/Status"), accessFlags := 16409, slot := 3, constantValue := 0 }, { name := "ABSENT", type := (.object "com/example/fapiao_lens/fapiaolens/Status"), accessFlags := 16409, slot := 4, constantValue := 0 }, { name := "CONFIRMED", type := (.object "com/example/fapiao_lens/fapiaolens/Status"), accessFlags := 16409, slot := 5, constantValue := 0 }, { name := "$VALUES", type := (.array (.object "com/example/fapiao_lens/fapiaolens/Status")), accessFlags := 4122, slot := 6, constantValue := 0 }]
  methods := #[k6m0]
  instanceTypes := #[(.object "java/lang/String"), .int, .int]
  staticTypes := #[(.object "com/example/fapiao_lens/fapiaolens/Status"), (.object "com/example/fapiao_lens/fapiaolens/Status"), (.object "com/example/fapiao_lens/fapiaolens/Status"), (.object "com/example/fapiao_lens/fapiaolens/Status"), (.object "com/example/fapiao_lens/fapiaolens/Status"), (.object "com/example/fapiao_lens/fapiaolens/Status"), (.array (.object "com/example/fapiao_lens/fapiaolens/Status"))]
  resolved := Array.replicate 117 none
  statics := some 0 }

def pool7 : Array CpInfo := pool [(1, u "java/lang/Cloneable"), (0, .class_ 1), (0, u "java/lang/Object"), (0, .class_ 3)] 3

/-- java/lang/Cloneable -/
def k7 : Class := { plain "java/lang/Cloneable" (some 0) with
  accessFlags := 1537
  interfaces := #[]
  cf := some (fileOf pool7 2 #[] #[] 1537 4 #[] #[])
  fields := #[]
  methods := #[]
  instanceTypes := #[]
  staticTypes := #[]
  resolved := Array.replicate 8 none
  statics := none }

/-- the primitive boolean -/
def k8 : Class := { plain "boolean" none with kind := .primitive 'Z', accessFlags := 0x411 }
/-- [Z -/
def k9 : Class := { plain "[Z" (some 0) with kind := .array 8 .boolean, interfaces := #[7, 4], accessFlags := 1041 }

/-- the primitive byte -/
def k10 : Class := { plain "byte" none with kind := .primitive 'B', accessFlags := 0x411 }
/-- [B -/
def k11 : Class := { plain "[B" (some 0) with kind := .array 10 .byte, interfaces := #[7, 4], accessFlags := 1041 }

/-- the primitive int -/
def k12 : Class := { plain "int" none with kind := .primitive 'I', accessFlags := 0x411 }
/-- [I -/
def k13 : Class := { plain "[I" (some 0) with kind := .array 12 .int, interfaces := #[7, 4], accessFlags := 1041 }

/-- [Lcom/example/fapiao_lens/fapiaolens/Status; -/
def k14 : Class := { plain "[Lcom/example/fapiao_lens/fapiaolens/Status;" (some 0) with kind := .array 6 (.object "com/example/fapiao_lens/fapiaolens/Status"), interfaces := #[7, 4], accessFlags := 1041 }

def heap : Heap := #[{ cls := 6, slots := #[.ref 1, .ref 2, .ref 3, .ref 4, .ref 5, .ref 6, .null], vm := .statics 6 },
  { cls := 6, slots := #[.null, .int 0, .int 0], vm := .none },
  { cls := 6, slots := #[.null, .int 1, .int 0], vm := .none },
  { cls := 6, slots := #[.null, .int 2, .int 0], vm := .none },
  { cls := 6, slots := #[.null, .int 3, .int 0], vm := .none },
  { cls := 6, slots := #[.null, .int 4, .int 0], vm := .none },
  { cls := 6, slots := #[.null, .int 5, .int 0], vm := .none }]
def classes : Array Class := #[k0, k1, k2, k3, k4, k5, k6, k7, k8, k9, k10, k11, k12, k13, k14]
def interned : List (Array UInt16 × Addr) := []
def slotsUsed : Nat := 25
def theMethod : MethodId := ⟨1, 1⟩
def args0 : Array Value := #[.int 5]
def aboutOver (below : List Frame) : State where
  vm := { classes := classes, interned := interned.toArray }
  heap := heap
  slotsUsed := slotsUsed
  threads := #[{ frames := .invoking theMethod args0 :: below }]
def below0 : List Frame := [.native { method := ⟨0, 0⟩, args := #[] }]
def about1 : State := aboutOver below0
def p0 : Program := .bare "" "" ""
def e0 : Env := launch0.env 0 0 0
theorem w_frames : about1.frames = Frame.invoking theMethod args0 :: below0 := rfl
set_option maxRecDepth 65536 in
theorem w_args : argsFit about1.vm theMethod args0 = true := by decide +kernel
set_option maxRecDepth 65536 in
theorem w_heap : heapFits about1 = true := by decide +kernel
set_option maxRecDepth 65536 in
theorem w_runnable : about1.curStatus? = some .runnable := by decide +kernel
set_option maxRecDepth 65536 in
theorem w_alone : about1.alone = true := by decide +kernel
set_option maxRecDepth 65536 in
theorem w_named : about1.methodNamed? x = some theMethod := by decide +kernel
set_option maxRecDepth 65536 in
theorem w_hears : about1.hears theMethod below0 = true := by decide +kernel
set_option maxRecDepth 65536 in
theorem w_ripe : about1.ripe theMethod args0 below0 = true := by decide +kernel
theorem w_running : about1.status = .running := rfl
set_option maxRecDepth 65536 in
theorem w_room : about1.hasRoom e0.platform room_1 = true :=
  launch0.hasRoom_least _ room_1 (by decide +kernel) (by decide +kernel) (by decide +kernel) (by decide +kernel) (by decide +kernel) (by decide +kernel)
theorem allAtoms_all (ts : List Jvm.Cond) (a : Array Jvm.Value) (st : Jvm.State) : (allAtoms ts).before a st = ts.all (fun c => c.before a st) := by
  induction ts with
  | nil => rfl
  | cons c t ih =>
    show (Jvm.Cond.and c (allAtoms t)).before a st = _
    rw [Jvm.Cond.before_and, ih, List.all_cons]
def words1 : List Jvm.Cond := Jvm.Cond.code x code maxLocals ret :: tables_1
/-- a 'code' word, met by the world's own term for the bytes: nothing is compared byte by byte -/
theorem code_word {y : MethodName} {bytes : ByteArray} {mx : Nat} {rt : Option FieldType} {a : Array Value} {s : State} {m : MethodId} {meth : Method} {c : Code} (h1 : s.methodNamed? y = some m) (h2 : s.vm.method? m = some meth) (h3 : meth.code = some c) (h4 : c.code = bytes)
    (h5 : (c.maxLocals == mx && c.exceptionTable.isEmpty && decide (c.maxStack ≤ mostOperands) && decide (meth.sig.returnType = rt) && !meth.locks && decide (parseMethodDescriptor y.desc = some meth.sig)) = true) : (Jvm.Cond.code y bytes mx rt).before a s = true := by
  simp only [Bool.and_eq_true, beq_iff_eq, Bool.not_eq_true', decide_eq_true_eq] at h5
  obtain ⟨⟨⟨⟨⟨g1, g2⟩, g3⟩, g4⟩, g5⟩, g6⟩ := h5
  simp [Cond.before, Cond.holds, Cond.value, h1, h2, h3, h4, g1, g2, g3, g4, g5, g6]
def isCode : Jvm.Cond → Bool
  | .code _ _ _ _ => true
  | _ => false
theorem all_split {L : List Jvm.Cond} {P : Jvm.Cond → Bool} (h1 : L.all (fun c => isCode c || P c) = true) (h2 : ∀ c ∈ L.filter isCode, P c = true) : L.all P = true := by
  refine List.all_eq_true.mpr fun c hc => ?_
  have h := List.all_eq_true.mp h1 c hc
  rcases Bool.eq_false_or_eq_true (isCode c) with hi | hi
  · exact h2 c (List.mem_filter.mpr ⟨hc, hi⟩)
  · simpa [hi] using h
set_option maxRecDepth 65536 in
theorem w_c0 : (Jvm.Cond.code x code maxLocals ret).before args0 about1 = true := code_word (m := ⟨1, 1⟩) (meth := k1m1) (c := k1c1) (by decide +kernel) rfl rfl rfl (by decide +kernel)
set_option maxRecDepth 65536 in
theorem w_c1 : (Jvm.Cond.code ({ cls := "com/example/fapiao_lens/fapiaolens/Status", name := "needsNoReview", desc := "()Z" } : Jvm.MethodName) prog_59_method_7_code (1 : Nat) (Option.some Jvm.ClassFile.FieldType.boolean)).before args0 about1 = true := code_word (m := ⟨6, 0⟩) (meth := k6m0) (c := k6c0) (by decide +kernel) rfl rfl rfl (by decide +kernel)
def codes1 : List Jvm.Cond := [Jvm.Cond.code x code maxLocals ret, Jvm.Cond.code ({ cls := "com/example/fapiao_lens/fapiaolens/Status", name := "needsNoReview", desc := "()Z" } : Jvm.MethodName) prog_59_method_7_code (1 : Nat) (Option.some Jvm.ClassFile.FieldType.boolean)]
set_option maxRecDepth 65536 in
theorem codes_eq : words1.filter isCode = codes1 := rfl
theorem w_codes : ∀ c ∈ words1.filter isCode, c.before args0 about1 = true := by
  rw [codes_eq]
  intro c hc
  simp only [codes1, List.mem_cons, List.not_mem_nil, or_false] at hc
  rcases hc with rfl | rfl
  · exact w_c0
  · exact w_c1
set_option maxRecDepth 65536 in
theorem w_t1 : (words1.take 24).all (fun c => isCode c || c.before args0 about1) = true := by decide +kernel
set_option maxRecDepth 65536 in
theorem w_t2 : (words1.drop 24).all (fun c => isCode c || c.before args0 about1) = true := by decide +kernel
theorem w_tables : (allAtoms (Jvm.Cond.code x code maxLocals ret :: tables_1)).before args0 about1 = true := by
  rw [allAtoms_all]
  show words1.all (fun c => c.before args0 about1) = true
  refine all_split ?_ w_codes
  rw [← List.take_append_drop 24 words1, List.all_append, w_t1, w_t2]
  rfl
set_option maxRecDepth 65536 in
theorem w_case : (Jvm.Cond.and given_1 narrow_1).before args0 about1 = true := by decide +kernel
theorem w_applies : (headSpec (Jvm.Cond.code x code maxLocals ret :: tables_1) room_1).applies x e0.platform about1 = true :=
  (Spec.applies_iff w_frames).mpr ⟨w_running, w_runnable, w_alone, w_named, w_hears, w_ripe, w_room, w_tables⟩
theorem atStart : AtStart classFile x code maxLocals ret World_1 tables_1 room_1 Calls_1 rest_1 Pre_1 launch0 p0 e0 about1 theMethod args0 below0 :=
  ⟨lists_1, trivial, launch0.admits_env _ _ _, launch0.least_env, fairChoices_fair.cas, fairChoices_fair.clock, w_frames, w_args, w_heap, w_applies, trivial, trivial, w_case⟩
end start1
theorem witness_1 : WitnessClaimed_1 := ⟨start1.p0, start1.e0, start1.about1, start1.theMethod, start1.args0, start1.below0, start1.atStart⟩
end Jvm.Pilot.@@N@@
