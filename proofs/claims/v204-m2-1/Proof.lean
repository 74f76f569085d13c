import JvmDerived
import JvmDerived.Pilot.@@N@@Statement
import JvmDerived.Pilot.@@N@@Code
set_option linter.unusedVariables false
set_option linter.unusedSimpArgs false
@@BLOCK:NumsL.lean.txt@@
namespace Jvm.RoadKit
open Sem ClassFile Op Lib Jvm.Stand Jvm.Free Jvm.LawKit
section New
variable {p : Program} {l : Launch} {e : Env} {R : Room} {s : State} {m : MethodId} {args : Array Value} {below : List Frame} {meth : Method} {c : Code} {T : State} {locs : List Loc} {cells slots : Nat}
theorem retI (X : Stand p l e R s m args below meth c T locs cells slots) (hx : p.tables.exec = Jvm.exec) {pc : Nat} {Ls : Array Slot} {z : Int32} {rest : List Value} (hret : meth.sig.returnType = some .int) (hd : decode c.code pc = .ok (.ireturn, 1)) {fs : List Frame}
    (hl : ∀ (f : JFrame) (acts : List Action), f.method = m → f.locked = none → f.entered = [] → (doReturn e (T.setTop f) acts (some (.int z))).1 = T.setFrames fs) : Steps p.tables e below (T.setTop (mkF m pc Ls (.int z :: rest))) (T.setFrames fs) := by
  have hm' : T.vm.method? m = some meth := X.method'
  have hn : narrow .int (.int z) = .int z := rfl
  show Steps p.tables e below (T.setTop { method := m, pc := pc, locals := Ls, stack := _ :: rest, locked := none }) _
  jvm_step X.here [X.here.top, hx, hd, hm', hret, hn]
  first | (intro acts; rw [hl _ acts rfl rfl rfl]) | rw [hl _ _ rfl rfl rfl]
  exact Steps.refl _
end New
end Jvm.RoadKit
namespace Jvm.Pilot.@@N@@
open Jvm Jvm.ClassFile Sem Op Lib Jvm.Free Jvm.Stand Jvm.LawKit Jvm.RoadKit Bundle Jvm.Pilot.@@N@@.Jvm.D
/-- a body that returns r, makes and writes nothing -/
def QP (r : Value) (h0 : Heap) (n0 : Nat) (v : Option Value) (h : Heap) (L : List Loc) : Prop := v = some r ∧ Fr n0 L ∧ h = h0
theorem own_d_method_3_code_0 : decode method_3_code 0 = .ok (.iload_n 0, 1) := by decide +kernel
theorem own_d_method_3_code_1 : decode method_3_code 1 = .ok (.ifCond .ne 7, 3) := by decide +kernel
theorem own_d_method_3_code_4 : decode method_3_code 4 = .ok (.getstatic 20, 3) := by decide +kernel
theorem own_d_method_3_code_7 : decode method_3_code 7 = .ok (.areturn, 1) := by decide +kernel
theorem own_d_prog_42_method_9_code_0 : decode prog_42_method_9_code 0 = .ok (.aload_n 0, 1) := by decide +kernel
theorem own_d_prog_42_method_9_code_1 : decode prog_42_method_9_code 1 = .ok (.getstatic 5, 3) := by decide +kernel
theorem own_d_prog_42_method_9_code_4 : decode prog_42_method_9_code 4 = .ok (.if_acmp .eq 24, 3) := by decide +kernel
theorem own_d_prog_42_method_9_code_28 : decode prog_42_method_9_code 28 = .ok (.iconst 1, 1) := by decide +kernel
theorem own_d_prog_42_method_9_code_29 : decode prog_42_method_9_code 29 = .ok (.goto 4, 3) := by decide +kernel
theorem own_d_prog_42_method_9_code_33 : decode prog_42_method_9_code 33 = .ok (.ireturn, 1) := by decide +kernel
theorem own_d_method_3_code_8 : decode method_3_code 8 = .ok (.iload_n 0, 1) := by decide +kernel
theorem own_d_method_3_code_9 : decode method_3_code 9 = .ok (.iconst 1, 1) := by decide +kernel
theorem own_d_method_3_code_10 : decode method_3_code 10 = .ok (.if_icmp .ne 7, 3) := by decide +kernel
theorem own_d_method_3_code_13 : decode method_3_code 13 = .ok (.getstatic 24, 3) := by decide +kernel
theorem own_d_method_3_code_16 : decode method_3_code 16 = .ok (.areturn, 1) := by decide +kernel
theorem own_d_prog_42_method_9_code_7 : decode prog_42_method_9_code 7 = .ok (.aload_n 0, 1) := by decide +kernel
theorem own_d_prog_42_method_9_code_8 : decode prog_42_method_9_code 8 = .ok (.getstatic 9, 3) := by decide +kernel
theorem own_d_prog_42_method_9_code_11 : decode prog_42_method_9_code 11 = .ok (.if_acmp .eq 17, 3) := by decide +kernel
theorem own_d_method_3_code_17 : decode method_3_code 17 = .ok (.iload_n 0, 1) := by decide +kernel
theorem own_d_method_3_code_18 : decode method_3_code 18 = .ok (.iconst 2, 1) := by decide +kernel
theorem own_d_method_3_code_19 : decode method_3_code 19 = .ok (.if_icmp .ne 7, 3) := by decide +kernel
theorem own_d_method_3_code_22 : decode method_3_code 22 = .ok (.getstatic 27, 3) := by decide +kernel
theorem own_d_method_3_code_25 : decode method_3_code 25 = .ok (.areturn, 1) := by decide +kernel
theorem own_d_prog_42_method_9_code_14 : decode prog_42_method_9_code 14 = .ok (.aload_n 0, 1) := by decide +kernel
theorem own_d_prog_42_method_9_code_15 : decode prog_42_method_9_code 15 = .ok (.getstatic 15, 3) := by decide +kernel
theorem own_d_prog_42_method_9_code_18 : decode prog_42_method_9_code 18 = .ok (.if_acmp .eq 10, 3) := by decide +kernel
theorem own_d_prog_42_method_9_code_21 : decode prog_42_method_9_code 21 = .ok (.aload_n 0, 1) := by decide +kernel
theorem own_d_prog_42_method_9_code_22 : decode prog_42_method_9_code 22 = .ok (.getstatic 18, 3) := by decide +kernel
theorem own_d_prog_42_method_9_code_25 : decode prog_42_method_9_code 25 = .ok (.if_acmp .ne 7, 3) := by decide +kernel
theorem own_d_prog_42_method_9_code_32 : decode prog_42_method_9_code 32 = .ok (.iconst 0, 1) := by decide +kernel
theorem own_d_method_3_code_26 : decode method_3_code 26 = .ok (.iload_n 0, 1) := by decide +kernel
theorem own_d_method_3_code_27 : decode method_3_code 27 = .ok (.iconst 3, 1) := by decide +kernel
theorem own_d_method_3_code_28 : decode method_3_code 28 = .ok (.if_icmp .ne 7, 3) := by decide +kernel
theorem own_d_method_3_code_31 : decode method_3_code 31 = .ok (.getstatic 30, 3) := by decide +kernel
theorem own_d_method_3_code_34 : decode method_3_code 34 = .ok (.areturn, 1) := by decide +kernel
theorem own_d_method_3_code_35 : decode method_3_code 35 = .ok (.iload_n 0, 1) := by decide +kernel
theorem own_d_method_3_code_36 : decode method_3_code 36 = .ok (.iconst 4, 1) := by decide +kernel
theorem own_d_method_3_code_37 : decode method_3_code 37 = .ok (.if_icmp .ne 7, 3) := by decide +kernel
theorem own_d_method_3_code_40 : decode method_3_code 40 = .ok (.getstatic 33, 3) := by decide +kernel
theorem own_d_method_3_code_43 : decode method_3_code 43 = .ok (.areturn, 1) := by decide +kernel
theorem own_d_method_3_code_44 : decode method_3_code 44 = .ok (.iload_n 0, 1) := by decide +kernel
theorem own_d_method_3_code_45 : decode method_3_code 45 = .ok (.iconst 5, 1) := by decide +kernel
theorem own_d_method_3_code_46 : decode method_3_code 46 = .ok (.if_icmp .ne 7, 3) := by decide +kernel
theorem own_d_method_3_code_49 : decode method_3_code 49 = .ok (.getstatic 36, 3) := by decide +kernel
theorem own_d_method_3_code_52 : decode method_3_code 52 = .ok (.areturn, 1) := by decide +kernel
theorem own_d_method_3_code_53 : decode method_3_code 53 = .ok (.iload_n 0, 1) := by decide +kernel
theorem own_d_method_3_code_54 : decode method_3_code 54 = .ok (.bipush 6, 2) := by decide +kernel
theorem own_d_method_3_code_56 : decode method_3_code 56 = .ok (.if_icmp .ne 7, 3) := by decide +kernel
theorem own_d_method_3_code_59 : decode method_3_code 59 = .ok (.getstatic 39, 3) := by decide +kernel
theorem own_d_method_3_code_62 : decode method_3_code 62 = .ok (.areturn, 1) := by decide +kernel
theorem own_d_method_3_code_63 : decode method_3_code 63 = .ok (.iload_n 0, 1) := by decide +kernel
theorem own_d_method_3_code_64 : decode method_3_code 64 = .ok (.bipush 7, 2) := by decide +kernel
theorem own_d_method_3_code_66 : decode method_3_code 66 = .ok (.if_icmp .ne 7, 3) := by decide +kernel
theorem own_d_method_3_code_69 : decode method_3_code 69 = .ok (.getstatic 42, 3) := by decide +kernel
theorem own_d_method_3_code_72 : decode method_3_code 72 = .ok (.areturn, 1) := by decide +kernel
theorem own_d_method_3_code_73 : decode method_3_code 73 = .ok (.getstatic 45, 3) := by decide +kernel
theorem own_d_method_3_code_76 : decode method_3_code 76 = .ok (.areturn, 1) := by decide +kernel
theorem own_pd0 : parseMethodDescriptor "(I)Lcom/example/datewarden/datewarden/XmlSchemaType;" = some ⟨[.int], some (.object "com/example/datewarden/datewarden/XmlSchemaType")⟩ := by decide +kernel
theorem own_pd1 : parseMethodDescriptor "()Z" = some ⟨[], some .boolean⟩ := by decide +kernel
theorem own_pn0 : plainName "com/example/datewarden/datewarden/XmlSchemaTypeTakesDurationsPinLaw" = true := by first | (simp [plainName, overriddenIn]; done) | decide +kernel
theorem own_pn1 : plainName "com/example/datewarden/datewarden/XmlSchemaType" = true := by first | (simp [plainName, overriddenIn]; done) | decide +kernel
def QL (n0 : Nat) (v : Option Value) (h : Heap) (L : List Loc) : Prop := v = some (.int 1) ∧ Fr n0 L
theorem own_intv {args : Array Value} {Z : State} {t : Term} {k : Int32} (h : (Cond.eq t (.int k)).value args Z none Z [] = some true) : t.eval args Z none [] Z = some (.int k) := by
  obtain ⟨x, y, e1, e2, -, k2⟩ := cmp_v (Or.inl h)
  have e2' : some (Value.int k) = some y := e2
  cases e2'
  obtain ⟨z, rfl⟩ := k2
  have q := gotT (Cond.eq_ints e1 (Term.int_eval k)) h
  rw [← q]; exact e1
theorem own_fldI {args : Array Value} {Z : State} {t : Term} {C n d : String} {k : Int32} {a : Addr} (ht : t.eval args Z none [] Z = some (.ref a)) (h : (Cond.eq (.field t C n d) (.int k)).value args Z none Z [] = some true) : Fld Z Z.heap a C n d (.int k) :=
  Fld.start ((fld_at ht).symm.trans (own_intv h))
theorem own_k (a : Int32) : ((a &&& (2147483647 : Int32)) % (9 : Int32)) = 0 ∨ ((a &&& (2147483647 : Int32)) % (9 : Int32)) = 1 ∨ ((a &&& (2147483647 : Int32)) % (9 : Int32)) = 2 ∨ ((a &&& (2147483647 : Int32)) % (9 : Int32)) = 3 ∨ ((a &&& (2147483647 : Int32)) % (9 : Int32)) = 4 ∨ ((a &&& (2147483647 : Int32)) % (9 : Int32)) = 5 ∨ ((a &&& (2147483647 : Int32)) % (9 : Int32)) = 6 ∨ ((a &&& (2147483647 : Int32)) % (9 : Int32)) = 7 ∨ ((a &&& (2147483647 : Int32)) % (9 : Int32)) = 8 := by
  have e1 : (a &&& 2147483647).toInt = a.toInt % 2 ^ 31 := Jvm.Kit.i32_mask a 2147483647 (k := 31) (by decide) (by decide)
  generalize (a &&& 2147483647) = x at *
  have t6 : (9 : Int32).toInt = 9 := by decide
  have d2 : (x % (9 : Int32)).toInt = x.toInt % 9 := by rw [Int32.toInt_mod, t6, Int.tmod_eq_emod_of_nonneg (by omega)]
  simp only [← Int32.toInt_inj, d2]
  show x.toInt % 9 = 0 ∨ x.toInt % 9 = 1 ∨ x.toInt % 9 = 2 ∨ x.toInt % 9 = 3 ∨ x.toInt % 9 = 4 ∨ x.toInt % 9 = 5 ∨ x.toInt % 9 = 6 ∨ x.toInt % 9 = 7 ∨ x.toInt % 9 = 8
  omega
theorem own_ef_rm1_0 (m : MethodId) (y0 : Int32) : entryFrame m #[(.int y0)] 1 = mkF m 0 #[.val (.int y0)] [] := by first | (simp [entryFrame, mkF, argsToLocals, Value.category]; done) | rfl
set_option maxRecDepth 65536 in
set_option maxHeartbeats 40000000 in
theorem rm1_0 (l : Launch) (Z : State) (a0 : Array Value) (hw : ∀ d ∈ tables_1, d.before a0 Z = true) (ws : List Jvm.Cond) (a_DATE_TIME : Addr) (a_G_YEAR_MONTH : Addr) (a_DATE : Addr) (a_TIME : Addr) (a_G_YEAR : Addr) (a_G_MONTH : Addr) (a_DURATION : Addr) (a_G_DAY : Addr) (a_G_MONTH_DAY : Addr) (h0 : Heap) (n0 : Nat) (Z0 : n0 ≤ h0.size) (S_DATE_TIME : Sta Z h0 "com/example/datewarden/datewarden/XmlSchemaType" "DATE_TIME" "Lcom/example/datewarden/datewarden/XmlSchemaType;" (.ref a_DATE_TIME)) (E_DATE_TIME : Exa Z h0 a_DATE_TIME "com/example/datewarden/datewarden/XmlSchemaType$1") (S_G_YEAR_MONTH : Sta Z h0 "com/example/datewarden/datewarden/XmlSchemaType" "G_YEAR_MONTH" "Lcom/example/datewarden/datewarden/XmlSchemaType;" (.ref a_G_YEAR_MONTH)) (E_G_YEAR_MONTH : Exa Z h0 a_G_YEAR_MONTH "com/example/datewarden/datewarden/XmlSchemaType$4") (S_DATE : Sta Z h0 "com/example/datewarden/datewarden/XmlSchemaType" "DATE" "Lcom/example/datewarden/datewarden/XmlSchemaType;" (.ref a_DATE)) (E_DATE : Exa Z h0 a_DATE "com/example/datewarden/datewarden/XmlSchemaType$2") (S_TIME : Sta Z h0 "com/example/datewarden/datewarden/XmlSchemaType" "TIME" "Lcom/example/datewarden/datewarden/XmlSchemaType;" (.ref a_TIME)) (E_TIME : Exa Z h0 a_TIME "com/example/datewarden/datewarden/XmlSchemaType$3") (S_G_YEAR : Sta Z h0 "com/example/datewarden/datewarden/XmlSchemaType" "G_YEAR" "Lcom/example/datewarden/datewarden/XmlSchemaType;" (.ref a_G_YEAR)) (E_G_YEAR : Exa Z h0 a_G_YEAR "com/example/datewarden/datewarden/XmlSchemaType$5") (S_G_MONTH : Sta Z h0 "com/example/datewarden/datewarden/XmlSchemaType" "G_MONTH" "Lcom/example/datewarden/datewarden/XmlSchemaType;" (.ref a_G_MONTH)) (E_G_MONTH : Exa Z h0 a_G_MONTH "com/example/datewarden/datewarden/XmlSchemaType$8") (S_DURATION : Sta Z h0 "com/example/datewarden/datewarden/XmlSchemaType" "DURATION" "Lcom/example/datewarden/datewarden/XmlSchemaType;" (.ref a_DURATION)) (E_DURATION : Exa Z h0 a_DURATION "com/example/datewarden/datewarden/XmlSchemaType$9") (S_G_DAY : Sta Z h0 "com/example/datewarden/datewarden/XmlSchemaType" "G_DAY" "Lcom/example/datewarden/datewarden/XmlSchemaType;" (.ref a_G_DAY)) (E_G_DAY : Exa Z h0 a_G_DAY "com/example/datewarden/datewarden/XmlSchemaType$7") (S_G_MONTH_DAY : Sta Z h0 "com/example/datewarden/datewarden/XmlSchemaType" "G_MONTH_DAY" "Lcom/example/datewarden/datewarden/XmlSchemaType;" (.ref a_G_MONTH_DAY)) (E_G_MONTH_DAY : Exa Z h0 a_G_MONTH_DAY "com/example/datewarden/datewarden/XmlSchemaType$6") :
    MetFree l (⟨"com/example/datewarden/datewarden/XmlSchemaTypeTakesDurationsPinLaw", "pick", "(I)Lcom/example/datewarden/datewarden/XmlSchemaType;"⟩ : MethodName) (head1 (Jvm.Cond.code (⟨"com/example/datewarden/datewarden/XmlSchemaTypeTakesDurationsPinLaw", "pick", "(I)Lcom/example/datewarden/datewarden/XmlSchemaType;"⟩ : MethodName) method_3_code 1 (some (.object "com/example/datewarden/datewarden/XmlSchemaType")) :: ws) ({ frames := 0, cells := 0, slots := 0, locals := 0 } : Room)) (fun a U => a = #[(.int (0 : Int32))] ∧ Z.Warmed39 U.vm ∧ U.heap = h0) (fun _ _ _ _ _ => True) (fun _ U o U' => ∃ v L, o = .returned v ∧ QP (.ref a_DATE_TIME) h0 n0 v U'.heap L ∧ FrameEnd U o U' L ({ frames := 0, cells := 0, slots := 0, locals := 0 } : Room).cells ({ frames := 0, cells := 0, slots := 0, locals := 0 } : Room).slots) := by
  refine MetFree.of_bodySF (plainFor_of_name own_pn0) hisR ?_
  intro p e s m args below meth c s₁ Bd hml0 hP hK
  obtain ⟨rfl, hZ, hh⟩ := hP
  have hx := Bd.exec
  have hby := Bd.bytes
  have hml : c.maxLocals = 1 := hml0
  have hown : s.vm.findClass "com/example/datewarden/datewarden/XmlSchemaTypeTakesDurationsPinLaw" = some m.cls := findClass_of_methodNamed Bd.named
  have hnm := (name_of_methodNamed Bd.named Bd.method).1
  have X0 : Stand p l e ({ frames := 0, cells := 0, slots := 0, locals := 0 } : Room) s m #[(.int (0 : Int32))] below meth c s₁ [] 0 0 := Stand.of_body Bd
  have e0 : s₁.heap = h0 := by rw [← hh, Bd.state]; rfl
  have N0 := Fr.nil n0
  have pre0 : ∀ t, Steps p.tables e below (s₁.setTop (mkF m 0 #[.val (.int (0 : Int32))] [])) t → Steps p.tables e below (s₁.setTop (entryFrame m #[(.int (0 : Int32))] 1)) t := fun t k => castTop (own_ef_rm1_0 m (0 : Int32)) k
  obtain ⟨T1, X1, e1, st1⟩ := getS2 X0 hx hZ hown (host := "") (Or.inl (hw _ (List.mem_of_getElem? (i := 5) rfl))) Via.refl e0 S_DATE_TIME (g := (mkF m 4 #[.val (.int (0 : Int32))] [])) rfl (hb hby own_d_method_3_code_4)
  have pre2 : ∀ t, Steps p.tables e below (T1.setTop (mkF m 7 #[.val (.int (0 : Int32))] [(.ref a_DATE_TIME)])) t → Steps p.tables e below (s₁.setTop (entryFrame m #[(.int (0 : Int32))] 1)) t := fun t k => pre0 t (by
    show Steps p.tables e below (s₁.setTop (mkF m 0 #[.val (.int (0 : Int32))] [])) _
    refine XS.iloadN X0.here hx rfl (hb hby own_d_method_3_code_0) rfl ?_
    show Steps p.tables e below (s₁.setTop (mkF m 1 #[.val (.int (0 : Int32))] [(.int (0 : Int32))])) _
    refine XS.ifNo X0.here hx rfl (hb hby own_d_method_3_code_1) rfl ((if0 _ _).trans (teq ((by decide) : (0 : Int32) = (0 : Int32))).2) ?_
    show Steps p.tables e below (s₁.setTop (mkF m 4 #[.val (.int (0 : Int32))] [])) _
    refine st1 _ ?_
    exact k)
  obtain ⟨fs, hr, hrun, hended, hW, hsame⟩ := X1.leave (v := some (.ref a_DATE_TIME)) (fun h => by rw [Bd.returns] at h; cases h)
  refine ⟨_, _, pre2 _ ?_, hrun, hended, _, _, rfl, ?_, ⟨_, rfl⟩, hW, hsame.mono (by decide) (by decide)⟩
  · show Steps p.tables e below (T1.setTop (mkF m 7 #[.val (.int (0 : Int32))] [(.ref a_DATE_TIME)])) _
    exact retOut X1 hx (t := (.object "com/example/datewarden/datewarden/XmlSchemaType")) (i := .areturn) Bd.returns rfl (Or.inr (Or.inr (Or.inr (Or.inr ⟨rfl, rfl, rfl⟩)))) (hb hby own_d_method_3_code_7) hr
  · show QP (.ref a_DATE_TIME) h0 n0 _ T1.heap _
    rw [e1]
    exact ⟨rfl, N0, rfl⟩
theorem own_ef_rm2_0 (m : MethodId) (y0 : Addr) : entryFrame m #[(.ref y0)] 1 = mkF m 0 #[.val (.ref y0)] [] := by first | (simp [entryFrame, mkF, argsToLocals, Value.category]; done) | rfl
set_option maxRecDepth 65536 in
set_option maxHeartbeats 40000000 in
theorem rm2_0 (l : Launch) (Z : State) (a0 : Array Value) (hw : ∀ d ∈ tables_1, d.before a0 Z = true) (ws : List Jvm.Cond) (a_DATE_TIME : Addr) (a_G_YEAR_MONTH : Addr) (a_DATE : Addr) (a_TIME : Addr) (a_G_YEAR : Addr) (a_G_MONTH : Addr) (a_DURATION : Addr) (a_G_DAY : Addr) (a_G_MONTH_DAY : Addr) (h0 : Heap) (n0 : Nat) (Z0 : n0 ≤ h0.size) (S_DATE_TIME : Sta Z h0 "com/example/datewarden/datewarden/XmlSchemaType" "DATE_TIME" "Lcom/example/datewarden/datewarden/XmlSchemaType;" (.ref a_DATE_TIME)) (E_DATE_TIME : Exa Z h0 a_DATE_TIME "com/example/datewarden/datewarden/XmlSchemaType$1") (S_G_YEAR_MONTH : Sta Z h0 "com/example/datewarden/datewarden/XmlSchemaType" "G_YEAR_MONTH" "Lcom/example/datewarden/datewarden/XmlSchemaType;" (.ref a_G_YEAR_MONTH)) (E_G_YEAR_MONTH : Exa Z h0 a_G_YEAR_MONTH "com/example/datewarden/datewarden/XmlSchemaType$4") (S_DATE : Sta Z h0 "com/example/datewarden/datewarden/XmlSchemaType" "DATE" "Lcom/example/datewarden/datewarden/XmlSchemaType;" (.ref a_DATE)) (E_DATE : Exa Z h0 a_DATE "com/example/datewarden/datewarden/XmlSchemaType$2") (S_TIME : Sta Z h0 "com/example/datewarden/datewarden/XmlSchemaType" "TIME" "Lcom/example/datewarden/datewarden/XmlSchemaType;" (.ref a_TIME)) (E_TIME : Exa Z h0 a_TIME "com/example/datewarden/datewarden/XmlSchemaType$3") (S_G_YEAR : Sta Z h0 "com/example/datewarden/datewarden/XmlSchemaType" "G_YEAR" "Lcom/example/datewarden/datewarden/XmlSchemaType;" (.ref a_G_YEAR)) (E_G_YEAR : Exa Z h0 a_G_YEAR "com/example/datewarden/datewarden/XmlSchemaType$5") (S_G_MONTH : Sta Z h0 "com/example/datewarden/datewarden/XmlSchemaType" "G_MONTH" "Lcom/example/datewarden/datewarden/XmlSchemaType;" (.ref a_G_MONTH)) (E_G_MONTH : Exa Z h0 a_G_MONTH "com/example/datewarden/datewarden/XmlSchemaType$8") (S_DURATION : Sta Z h0 "com/example/datewarden/datewarden/XmlSchemaType" "DURATION" "Lcom/example/datewarden/datewarden/XmlSchemaType;" (.ref a_DURATION)) (E_DURATION : Exa Z h0 a_DURATION "com/example/datewarden/datewarden/XmlSchemaType$9") (S_G_DAY : Sta Z h0 "com/example/datewarden/datewarden/XmlSchemaType" "G_DAY" "Lcom/example/datewarden/datewarden/XmlSchemaType;" (.ref a_G_DAY)) (E_G_DAY : Exa Z h0 a_G_DAY "com/example/datewarden/datewarden/XmlSchemaType$7") (S_G_MONTH_DAY : Sta Z h0 "com/example/datewarden/datewarden/XmlSchemaType" "G_MONTH_DAY" "Lcom/example/datewarden/datewarden/XmlSchemaType;" (.ref a_G_MONTH_DAY)) (E_G_MONTH_DAY : Exa Z h0 a_G_MONTH_DAY "com/example/datewarden/datewarden/XmlSchemaType$6") :
    MetFree l (⟨"com/example/datewarden/datewarden/XmlSchemaType", "takesDurations", "()Z"⟩ : MethodName) (head1 (Jvm.Cond.code (⟨"com/example/datewarden/datewarden/XmlSchemaType", "takesDurations", "()Z"⟩ : MethodName) prog_42_method_9_code 1 (some .boolean) :: ws) ({ frames := 0, cells := 0, slots := 0, locals := 0 } : Room)) (fun a U => a = #[(.ref a_DATE_TIME)] ∧ Z.Warmed39 U.vm ∧ U.heap = h0) (fun _ _ _ _ _ => True) (fun _ U o U' => ∃ v L, o = .returned v ∧ QP (.int (1 : Int32)) h0 n0 v U'.heap L ∧ FrameEnd U o U' L ({ frames := 0, cells := 0, slots := 0, locals := 0 } : Room).cells ({ frames := 0, cells := 0, slots := 0, locals := 0 } : Room).slots) := by
  refine MetFree.of_bodySF (plainFor_of_name own_pn1) hisR ?_
  intro p e s m args below meth c s₁ Bd hml0 hP hK
  obtain ⟨rfl, hZ, hh⟩ := hP
  have hx := Bd.exec
  have hby := Bd.bytes
  have hml : c.maxLocals = 1 := hml0
  have hown : s.vm.findClass "com/example/datewarden/datewarden/XmlSchemaType" = some m.cls := findClass_of_methodNamed Bd.named
  have hnm := (name_of_methodNamed Bd.named Bd.method).1
  have X0 : Stand p l e ({ frames := 0, cells := 0, slots := 0, locals := 0 } : Room) s m #[(.ref a_DATE_TIME)] below meth c s₁ [] 0 0 := Stand.of_body Bd
  have e0 : s₁.heap = h0 := by rw [← hh, Bd.state]; rfl
  have N0 := Fr.nil n0
  have pre0 : ∀ t, Steps p.tables e below (s₁.setTop (mkF m 0 #[.val (.ref a_DATE_TIME)] [])) t → Steps p.tables e below (s₁.setTop (entryFrame m #[(.ref a_DATE_TIME)] 1)) t := fun t k => castTop (own_ef_rm2_0 m a_DATE_TIME) k
  obtain ⟨T1, X1, e1, st1⟩ := getS2 X0 hx hZ hown (host := "") (Or.inl (hw _ (List.mem_of_getElem? (i := 13) rfl))) Via.refl e0 S_DATE_TIME (g := (mkF m 1 #[.val (.ref a_DATE_TIME)] [(.ref a_DATE_TIME)])) rfl (hb hby own_d_prog_42_method_9_code_1)
  have pre2 : ∀ t, Steps p.tables e below (T1.setTop (mkF m 33 #[.val (.ref a_DATE_TIME)] [(.int (1 : Int32))])) t → Steps p.tables e below (s₁.setTop (entryFrame m #[(.ref a_DATE_TIME)] 1)) t := fun t k => pre0 t (by
    show Steps p.tables e below (s₁.setTop (mkF m 0 #[.val (.ref a_DATE_TIME)] [])) _
    refine XS.aloadN X0.here hx rfl (hb hby own_d_prog_42_method_9_code_0) rfl rfl ?_
    show Steps p.tables e below (s₁.setTop (mkF m 1 #[.val (.ref a_DATE_TIME)] [(.ref a_DATE_TIME)])) _
    refine st1 _ ?_
    show Steps p.tables e below (T1.setTop (mkF m 4 #[.val (.ref a_DATE_TIME)] [(.ref a_DATE_TIME), (.ref a_DATE_TIME)])) _
    refine Jvm.RoadKit.acmp (g := (mkF m 4 #[.val (.ref a_DATE_TIME)] [(.ref a_DATE_TIME), (.ref a_DATE_TIME)])) X1 hx rfl rfl rfl (pc0 := 4) (pc' := 28) (same := true) rfl (hb hby own_d_prog_42_method_9_code_4) rfl (decide_eq_true (rfl)) (by decide) (by decide) ?_
    show Steps p.tables e below (T1.setTop (mkF m 28 #[.val (.ref a_DATE_TIME)] [])) _
    refine XS.iconst X1.here hx rfl (hb hby own_d_prog_42_method_9_code_28) ?_
    show Steps p.tables e below (T1.setTop (mkF m 29 #[.val (.ref a_DATE_TIME)] [(.int (1 : Int32))])) _
    refine XS.goto X1.here hx rfl (pc0 := 29) (pc' := 33) rfl (hb hby own_d_prog_42_method_9_code_29) (by decide) (by decide) ?_
    exact k)
  obtain ⟨fs, hr, hrun, hended, hW, hsame⟩ := X1.leave (v := some (.int (nar .boolean (1 : Int32)))) (fun h => by rw [Bd.returns] at h; cases h)
  refine ⟨_, _, pre2 _ ?_, hrun, hended, _, _, rfl, ?_, ⟨_, rfl⟩, hW, hsame.mono (by decide) (by decide)⟩
  · show Steps p.tables e below (T1.setTop (mkF m 33 #[.val (.ref a_DATE_TIME)] [(.int (1 : Int32))])) _
    exact retN X1 hx (t := .boolean) Bd.returns (by simp) (hb hby own_d_prog_42_method_9_code_33) hr
  · show QP (.int (1 : Int32)) h0 n0 _ T1.heap _
    rw [e1]
    exact ⟨rfl, N0, rfl⟩
theorem own_ef_rm1_1 (m : MethodId) (y0 : Int32) : entryFrame m #[(.int y0)] 1 = mkF m 0 #[.val (.int y0)] [] := by first | (simp [entryFrame, mkF, argsToLocals, Value.category]; done) | rfl
set_option maxRecDepth 65536 in
set_option maxHeartbeats 40000000 in
theorem rm1_1 (l : Launch) (Z : State) (a0 : Array Value) (hw : ∀ d ∈ tables_1, d.before a0 Z = true) (ws : List Jvm.Cond) (a_DATE_TIME : Addr) (a_G_YEAR_MONTH : Addr) (a_DATE : Addr) (a_TIME : Addr) (a_G_YEAR : Addr) (a_G_MONTH : Addr) (a_DURATION : Addr) (a_G_DAY : Addr) (a_G_MONTH_DAY : Addr) (h0 : Heap) (n0 : Nat) (Z0 : n0 ≤ h0.size) (S_DATE_TIME : Sta Z h0 "com/example/datewarden/datewarden/XmlSchemaType" "DATE_TIME" "Lcom/example/datewarden/datewarden/XmlSchemaType;" (.ref a_DATE_TIME)) (E_DATE_TIME : Exa Z h0 a_DATE_TIME "com/example/datewarden/datewarden/XmlSchemaType$1") (S_G_YEAR_MONTH : Sta Z h0 "com/example/datewarden/datewarden/XmlSchemaType" "G_YEAR_MONTH" "Lcom/example/datewarden/datewarden/XmlSchemaType;" (.ref a_G_YEAR_MONTH)) (E_G_YEAR_MONTH : Exa Z h0 a_G_YEAR_MONTH "com/example/datewarden/datewarden/XmlSchemaType$4") (S_DATE : Sta Z h0 "com/example/datewarden/datewarden/XmlSchemaType" "DATE" "Lcom/example/datewarden/datewarden/XmlSchemaType;" (.ref a_DATE)) (E_DATE : Exa Z h0 a_DATE "com/example/datewarden/datewarden/XmlSchemaType$2") (S_TIME : Sta Z h0 "com/example/datewarden/datewarden/XmlSchemaType" "TIME" "Lcom/example/datewarden/datewarden/XmlSchemaType;" (.ref a_TIME)) (E_TIME : Exa Z h0 a_TIME "com/example/datewarden/datewarden/XmlSchemaType$3") (S_G_YEAR : Sta Z h0 "com/example/datewarden/datewarden/XmlSchemaType" "G_YEAR" "Lcom/example/datewarden/datewarden/XmlSchemaType;" (.ref a_G_YEAR)) (E_G_YEAR : Exa Z h0 a_G_YEAR "com/example/datewarden/datewarden/XmlSchemaType$5") (S_G_MONTH : Sta Z h0 "com/example/datewarden/datewarden/XmlSchemaType" "G_MONTH" "Lcom/example/datewarden/datewarden/XmlSchemaType;" (.ref a_G_MONTH)) (E_G_MONTH : Exa Z h0 a_G_MONTH "com/example/datewarden/datewarden/XmlSchemaType$8") (S_DURATION : Sta Z h0 "com/example/datewarden/datewarden/XmlSchemaType" "DURATION" "Lcom/example/datewarden/datewarden/XmlSchemaType;" (.ref a_DURATION)) (E_DURATION : Exa Z h0 a_DURATION "com/example/datewarden/datewarden/XmlSchemaType$9") (S_G_DAY : Sta Z h0 "com/example/datewarden/datewarden/XmlSchemaType" "G_DAY" "Lcom/example/datewarden/datewarden/XmlSchemaType;" (.ref a_G_DAY)) (E_G_DAY : Exa Z h0 a_G_DAY "com/example/datewarden/datewarden/XmlSchemaType$7") (S_G_MONTH_DAY : Sta Z h0 "com/example/datewarden/datewarden/XmlSchemaType" "G_MONTH_DAY" "Lcom/example/datewarden/datewarden/XmlSchemaType;" (.ref a_G_MONTH_DAY)) (E_G_MONTH_DAY : Exa Z h0 a_G_MONTH_DAY "com/example/datewarden/datewarden/XmlSchemaType$6") :
    MetFree l (⟨"com/example/datewarden/datewarden/XmlSchemaTypeTakesDurationsPinLaw", "pick", "(I)Lcom/example/datewarden/datewarden/XmlSchemaType;"⟩ : MethodName) (head1 (Jvm.Cond.code (⟨"com/example/datewarden/datewarden/XmlSchemaTypeTakesDurationsPinLaw", "pick", "(I)Lcom/example/datewarden/datewarden/XmlSchemaType;"⟩ : MethodName) method_3_code 1 (some (.object "com/example/datewarden/datewarden/XmlSchemaType")) :: ws) ({ frames := 0, cells := 0, slots := 0, locals := 0 } : Room)) (fun a U => a = #[(.int (1 : Int32))] ∧ Z.Warmed39 U.vm ∧ U.heap = h0) (fun _ _ _ _ _ => True) (fun _ U o U' => ∃ v L, o = .returned v ∧ QP (.ref a_DATE) h0 n0 v U'.heap L ∧ FrameEnd U o U' L ({ frames := 0, cells := 0, slots := 0, locals := 0 } : Room).cells ({ frames := 0, cells := 0, slots := 0, locals := 0 } : Room).slots) := by
  refine MetFree.of_bodySF (plainFor_of_name own_pn0) hisR ?_
  intro p e s m args below meth c s₁ Bd hml0 hP hK
  obtain ⟨rfl, hZ, hh⟩ := hP
  have hx := Bd.exec
  have hby := Bd.bytes
  have hml : c.maxLocals = 1 := hml0
  have hown : s.vm.findClass "com/example/datewarden/datewarden/XmlSchemaTypeTakesDurationsPinLaw" = some m.cls := findClass_of_methodNamed Bd.named
  have hnm := (name_of_methodNamed Bd.named Bd.method).1
  have X0 : Stand p l e ({ frames := 0, cells := 0, slots := 0, locals := 0 } : Room) s m #[(.int (1 : Int32))] below meth c s₁ [] 0 0 := Stand.of_body Bd
  have e0 : s₁.heap = h0 := by rw [← hh, Bd.state]; rfl
  have N0 := Fr.nil n0
  have pre0 : ∀ t, Steps p.tables e below (s₁.setTop (mkF m 0 #[.val (.int (1 : Int32))] [])) t → Steps p.tables e below (s₁.setTop (entryFrame m #[(.int (1 : Int32))] 1)) t := fun t k => castTop (own_ef_rm1_1 m (1 : Int32)) k
  obtain ⟨T1, X1, e1, st1⟩ := getS2 X0 hx hZ hown (host := "") (Or.inl (hw _ (List.mem_of_getElem? (i := 25) rfl))) Via.refl e0 S_DATE (g := (mkF m 13 #[.val (.int (1 : Int32))] [])) rfl (hb hby own_d_method_3_code_13)
  have pre2 : ∀ t, Steps p.tables e below (T1.setTop (mkF m 16 #[.val (.int (1 : Int32))] [(.ref a_DATE)])) t → Steps p.tables e below (s₁.setTop (entryFrame m #[(.int (1 : Int32))] 1)) t := fun t k => pre0 t (by
    show Steps p.tables e below (s₁.setTop (mkF m 0 #[.val (.int (1 : Int32))] [])) _
    refine XS.iloadN X0.here hx rfl (hb hby own_d_method_3_code_0) rfl ?_
    show Steps p.tables e below (s₁.setTop (mkF m 1 #[.val (.int (1 : Int32))] [(.int (1 : Int32))])) _
    refine XS.ifYes X0.here hx rfl (pc0 := 1) (pc' := 8) rfl (hb hby own_d_method_3_code_1) rfl ((if0 _ _).trans (feq ((by decide) : ¬ ((1 : Int32) = (0 : Int32)))).2) (by decide) (by decide) ?_
    show Steps p.tables e below (s₁.setTop (mkF m 8 #[.val (.int (1 : Int32))] [])) _
    refine XS.iloadN X0.here hx rfl (hb hby own_d_method_3_code_8) rfl ?_
    show Steps p.tables e below (s₁.setTop (mkF m 9 #[.val (.int (1 : Int32))] [(.int (1 : Int32))])) _
    refine XS.iconst X0.here hx rfl (hb hby own_d_method_3_code_9) ?_
    show Steps p.tables e below (s₁.setTop (mkF m 10 #[.val (.int (1 : Int32))] [(.int (1 : Int32)), (.int (1 : Int32))])) _
    refine XS.icmpNo X0.here hx rfl (hb hby own_d_method_3_code_10) rfl (teq ((by decide) : (1 : Int32) = (1 : Int32))).2 ?_
    show Steps p.tables e below (s₁.setTop (mkF m 13 #[.val (.int (1 : Int32))] [])) _
    refine st1 _ ?_
    exact k)
  obtain ⟨fs, hr, hrun, hended, hW, hsame⟩ := X1.leave (v := some (.ref a_DATE)) (fun h => by rw [Bd.returns] at h; cases h)
  refine ⟨_, _, pre2 _ ?_, hrun, hended, _, _, rfl, ?_, ⟨_, rfl⟩, hW, hsame.mono (by decide) (by decide)⟩
  · show Steps p.tables e below (T1.setTop (mkF m 16 #[.val (.int (1 : Int32))] [(.ref a_DATE)])) _
    exact retOut X1 hx (t := (.object "com/example/datewarden/datewarden/XmlSchemaType")) (i := .areturn) Bd.returns rfl (Or.inr (Or.inr (Or.inr (Or.inr ⟨rfl, rfl, rfl⟩)))) (hb hby own_d_method_3_code_16) hr
  · show QP (.ref a_DATE) h0 n0 _ T1.heap _
    rw [e1]
    exact ⟨rfl, N0, rfl⟩
theorem own_ef_rm2_1 (m : MethodId) (y0 : Addr) : entryFrame m #[(.ref y0)] 1 = mkF m 0 #[.val (.ref y0)] [] := by first | (simp [entryFrame, mkF, argsToLocals, Value.category]; done) | rfl
set_option maxRecDepth 65536 in
set_option maxHeartbeats 40000000 in
theorem rm2_1 (l : Launch) (Z : State) (a0 : Array Value) (hw : ∀ d ∈ tables_1, d.before a0 Z = true) (ws : List Jvm.Cond) (a_DATE_TIME : Addr) (a_G_YEAR_MONTH : Addr) (a_DATE : Addr) (a_TIME : Addr) (a_G_YEAR : Addr) (a_G_MONTH : Addr) (a_DURATION : Addr) (a_G_DAY : Addr) (a_G_MONTH_DAY : Addr) (h0 : Heap) (n0 : Nat) (Z0 : n0 ≤ h0.size) (S_DATE_TIME : Sta Z h0 "com/example/datewarden/datewarden/XmlSchemaType" "DATE_TIME" "Lcom/example/datewarden/datewarden/XmlSchemaType;" (.ref a_DATE_TIME)) (E_DATE_TIME : Exa Z h0 a_DATE_TIME "com/example/datewarden/datewarden/XmlSchemaType$1") (S_G_YEAR_MONTH : Sta Z h0 "com/example/datewarden/datewarden/XmlSchemaType" "G_YEAR_MONTH" "Lcom/example/datewarden/datewarden/XmlSchemaType;" (.ref a_G_YEAR_MONTH)) (E_G_YEAR_MONTH : Exa Z h0 a_G_YEAR_MONTH "com/example/datewarden/datewarden/XmlSchemaType$4") (S_DATE : Sta Z h0 "com/example/datewarden/datewarden/XmlSchemaType" "DATE" "Lcom/example/datewarden/datewarden/XmlSchemaType;" (.ref a_DATE)) (E_DATE : Exa Z h0 a_DATE "com/example/datewarden/datewarden/XmlSchemaType$2") (S_TIME : Sta Z h0 "com/example/datewarden/datewarden/XmlSchemaType" "TIME" "Lcom/example/datewarden/datewarden/XmlSchemaType;" (.ref a_TIME)) (E_TIME : Exa Z h0 a_TIME "com/example/datewarden/datewarden/XmlSchemaType$3") (S_G_YEAR : Sta Z h0 "com/example/datewarden/datewarden/XmlSchemaType" "G_YEAR" "Lcom/example/datewarden/datewarden/XmlSchemaType;" (.ref a_G_YEAR)) (E_G_YEAR : Exa Z h0 a_G_YEAR "com/example/datewarden/datewarden/XmlSchemaType$5") (S_G_MONTH : Sta Z h0 "com/example/datewarden/datewarden/XmlSchemaType" "G_MONTH" "Lcom/example/datewarden/datewarden/XmlSchemaType;" (.ref a_G_MONTH)) (E_G_MONTH : Exa Z h0 a_G_MONTH "com/example/datewarden/datewarden/XmlSchemaType$8") (S_DURATION : Sta Z h0 "com/example/datewarden/datewarden/XmlSchemaType" "DURATION" "Lcom/example/datewarden/datewarden/XmlSchemaType;" (.ref a_DURATION)) (E_DURATION : Exa Z h0 a_DURATION "com/example/datewarden/datewarden/XmlSchemaType$9") (S_G_DAY : Sta Z h0 "com/example/datewarden/datewarden/XmlSchemaType" "G_DAY" "Lcom/example/datewarden/datewarden/XmlSchemaType;" (.ref a_G_DAY)) (E_G_DAY : Exa Z h0 a_G_DAY "com/example/datewarden/datewarden/XmlSchemaType$7") (S_G_MONTH_DAY : Sta Z h0 "com/example/datewarden/datewarden/XmlSchemaType" "G_MONTH_DAY" "Lcom/example/datewarden/datewarden/XmlSchemaType;" (.ref a_G_MONTH_DAY)) (E_G_MONTH_DAY : Exa Z h0 a_G_MONTH_DAY "com/example/datewarden/datewarden/XmlSchemaType$6") :
    MetFree l (⟨"com/example/datewarden/datewarden/XmlSchemaType", "takesDurations", "()Z"⟩ : MethodName) (head1 (Jvm.Cond.code (⟨"com/example/datewarden/datewarden/XmlSchemaType", "takesDurations", "()Z"⟩ : MethodName) prog_42_method_9_code 1 (some .boolean) :: ws) ({ frames := 0, cells := 0, slots := 0, locals := 0 } : Room)) (fun a U => a = #[(.ref a_DATE)] ∧ Z.Warmed39 U.vm ∧ U.heap = h0) (fun _ _ _ _ _ => True) (fun _ U o U' => ∃ v L, o = .returned v ∧ QP (.int (1 : Int32)) h0 n0 v U'.heap L ∧ FrameEnd U o U' L ({ frames := 0, cells := 0, slots := 0, locals := 0 } : Room).cells ({ frames := 0, cells := 0, slots := 0, locals := 0 } : Room).slots) := by
  refine MetFree.of_bodySF (plainFor_of_name own_pn1) hisR ?_
  intro p e s m args below meth c s₁ Bd hml0 hP hK
  obtain ⟨rfl, hZ, hh⟩ := hP
  have hx := Bd.exec
  have hby := Bd.bytes
  have hml : c.maxLocals = 1 := hml0
  have hown : s.vm.findClass "com/example/datewarden/datewarden/XmlSchemaType" = some m.cls := findClass_of_methodNamed Bd.named
  have hnm := (name_of_methodNamed Bd.named Bd.method).1
  have X0 : Stand p l e ({ frames := 0, cells := 0, slots := 0, locals := 0 } : Room) s m #[(.ref a_DATE)] below meth c s₁ [] 0 0 := Stand.of_body Bd
  have e0 : s₁.heap = h0 := by rw [← hh, Bd.state]; rfl
  have N0 := Fr.nil n0
  have pre0 : ∀ t, Steps p.tables e below (s₁.setTop (mkF m 0 #[.val (.ref a_DATE)] [])) t → Steps p.tables e below (s₁.setTop (entryFrame m #[(.ref a_DATE)] 1)) t := fun t k => castTop (own_ef_rm2_1 m a_DATE) k
  obtain ⟨T1, X1, e1, st1⟩ := getS2 X0 hx hZ hown (host := "") (Or.inl (hw _ (List.mem_of_getElem? (i := 13) rfl))) Via.refl e0 S_DATE_TIME (g := (mkF m 1 #[.val (.ref a_DATE)] [(.ref a_DATE)])) rfl (hb hby own_d_prog_42_method_9_code_1)
  obtain ⟨T2, X2, e2, st2⟩ := getS2 X1 hx hZ hown (host := "") (Or.inl (hw _ (List.mem_of_getElem? (i := 17) rfl))) Via.refl e1 S_DATE (g := (mkF m 8 #[.val (.ref a_DATE)] [(.ref a_DATE)])) rfl (hb hby own_d_prog_42_method_9_code_8)
  have pre3 : ∀ t, Steps p.tables e below (T2.setTop (mkF m 33 #[.val (.ref a_DATE)] [(.int (1 : Int32))])) t → Steps p.tables e below (s₁.setTop (entryFrame m #[(.ref a_DATE)] 1)) t := fun t k => pre0 t (by
    show Steps p.tables e below (s₁.setTop (mkF m 0 #[.val (.ref a_DATE)] [])) _
    refine XS.aloadN X0.here hx rfl (hb hby own_d_prog_42_method_9_code_0) rfl rfl ?_
    show Steps p.tables e below (s₁.setTop (mkF m 1 #[.val (.ref a_DATE)] [(.ref a_DATE)])) _
    refine st1 _ ?_
    show Steps p.tables e below (T1.setTop (mkF m 4 #[.val (.ref a_DATE)] [(.ref a_DATE_TIME), (.ref a_DATE)])) _
    refine Jvm.RoadKit.acmp (g := (mkF m 4 #[.val (.ref a_DATE)] [(.ref a_DATE_TIME), (.ref a_DATE)])) X1 hx rfl rfl rfl (pc0 := 4) (pc' := 7) (same := false) rfl (hb hby own_d_prog_42_method_9_code_4) rfl (decide_eq_false fun q => ((ne_exa E_DATE E_DATE_TIME (by decide)) : ¬ (a_DATE = a_DATE_TIME)) (Value.ref.inj q)) (by decide) (by decide) ?_
    show Steps p.tables e below (T1.setTop (mkF m 7 #[.val (.ref a_DATE)] [])) _
    refine XS.aloadN X1.here hx rfl (hb hby own_d_prog_42_method_9_code_7) rfl rfl ?_
    show Steps p.tables e below (T1.setTop (mkF m 8 #[.val (.ref a_DATE)] [(.ref a_DATE)])) _
    refine st2 _ ?_
    show Steps p.tables e below (T2.setTop (mkF m 11 #[.val (.ref a_DATE)] [(.ref a_DATE), (.ref a_DATE)])) _
    refine Jvm.RoadKit.acmp (g := (mkF m 11 #[.val (.ref a_DATE)] [(.ref a_DATE), (.ref a_DATE)])) X2 hx rfl rfl rfl (pc0 := 11) (pc' := 28) (same := true) rfl (hb hby own_d_prog_42_method_9_code_11) rfl (decide_eq_true (rfl)) (by decide) (by decide) ?_
    show Steps p.tables e below (T2.setTop (mkF m 28 #[.val (.ref a_DATE)] [])) _
    refine XS.iconst X2.here hx rfl (hb hby own_d_prog_42_method_9_code_28) ?_
    show Steps p.tables e below (T2.setTop (mkF m 29 #[.val (.ref a_DATE)] [(.int (1 : Int32))])) _
    refine XS.goto X2.here hx rfl (pc0 := 29) (pc' := 33) rfl (hb hby own_d_prog_42_method_9_code_29) (by decide) (by decide) ?_
    exact k)
  obtain ⟨fs, hr, hrun, hended, hW, hsame⟩ := X2.leave (v := some (.int (nar .boolean (1 : Int32)))) (fun h => by rw [Bd.returns] at h; cases h)
  refine ⟨_, _, pre3 _ ?_, hrun, hended, _, _, rfl, ?_, ⟨_, rfl⟩, hW, hsame.mono (by decide) (by decide)⟩
  · show Steps p.tables e below (T2.setTop (mkF m 33 #[.val (.ref a_DATE)] [(.int (1 : Int32))])) _
    exact retN X2 hx (t := .boolean) Bd.returns (by simp) (hb hby own_d_prog_42_method_9_code_33) hr
  · show QP (.int (1 : Int32)) h0 n0 _ T2.heap _
    rw [e2]
    exact ⟨rfl, N0, rfl⟩
theorem own_ef_rm1_2 (m : MethodId) (y0 : Int32) : entryFrame m #[(.int y0)] 1 = mkF m 0 #[.val (.int y0)] [] := by first | (simp [entryFrame, mkF, argsToLocals, Value.category]; done) | rfl
set_option maxRecDepth 65536 in
set_option maxHeartbeats 40000000 in
theorem rm1_2 (l : Launch) (Z : State) (a0 : Array Value) (hw : ∀ d ∈ tables_1, d.before a0 Z = true) (ws : List Jvm.Cond) (a_DATE_TIME : Addr) (a_G_YEAR_MONTH : Addr) (a_DATE : Addr) (a_TIME : Addr) (a_G_YEAR : Addr) (a_G_MONTH : Addr) (a_DURATION : Addr) (a_G_DAY : Addr) (a_G_MONTH_DAY : Addr) (h0 : Heap) (n0 : Nat) (Z0 : n0 ≤ h0.size) (S_DATE_TIME : Sta Z h0 "com/example/datewarden/datewarden/XmlSchemaType" "DATE_TIME" "Lcom/example/datewarden/datewarden/XmlSchemaType;" (.ref a_DATE_TIME)) (E_DATE_TIME : Exa Z h0 a_DATE_TIME "com/example/datewarden/datewarden/XmlSchemaType$1") (S_G_YEAR_MONTH : Sta Z h0 "com/example/datewarden/datewarden/XmlSchemaType" "G_YEAR_MONTH" "Lcom/example/datewarden/datewarden/XmlSchemaType;" (.ref a_G_YEAR_MONTH)) (E_G_YEAR_MONTH : Exa Z h0 a_G_YEAR_MONTH "com/example/datewarden/datewarden/XmlSchemaType$4") (S_DATE : Sta Z h0 "com/example/datewarden/datewarden/XmlSchemaType" "DATE" "Lcom/example/datewarden/datewarden/XmlSchemaType;" (.ref a_DATE)) (E_DATE : Exa Z h0 a_DATE "com/example/datewarden/datewarden/XmlSchemaType$2") (S_TIME : Sta Z h0 "com/example/datewarden/datewarden/XmlSchemaType" "TIME" "Lcom/example/datewarden/datewarden/XmlSchemaType;" (.ref a_TIME)) (E_TIME : Exa Z h0 a_TIME "com/example/datewarden/datewarden/XmlSchemaType$3") (S_G_YEAR : Sta Z h0 "com/example/datewarden/datewarden/XmlSchemaType" "G_YEAR" "Lcom/example/datewarden/datewarden/XmlSchemaType;" (.ref a_G_YEAR)) (E_G_YEAR : Exa Z h0 a_G_YEAR "com/example/datewarden/datewarden/XmlSchemaType$5") (S_G_MONTH : Sta Z h0 "com/example/datewarden/datewarden/XmlSchemaType" "G_MONTH" "Lcom/example/datewarden/datewarden/XmlSchemaType;" (.ref a_G_MONTH)) (E_G_MONTH : Exa Z h0 a_G_MONTH "com/example/datewarden/datewarden/XmlSchemaType$8") (S_DURATION : Sta Z h0 "com/example/datewarden/datewarden/XmlSchemaType" "DURATION" "Lcom/example/datewarden/datewarden/XmlSchemaType;" (.ref a_DURATION)) (E_DURATION : Exa Z h0 a_DURATION "com/example/datewarden/datewarden/XmlSchemaType$9") (S_G_DAY : Sta Z h0 "com/example/datewarden/datewarden/XmlSchemaType" "G_DAY" "Lcom/example/datewarden/datewarden/XmlSchemaType;" (.ref a_G_DAY)) (E_G_DAY : Exa Z h0 a_G_DAY "com/example/datewarden/datewarden/XmlSchemaType$7") (S_G_MONTH_DAY : Sta Z h0 "com/example/datewarden/datewarden/XmlSchemaType" "G_MONTH_DAY" "Lcom/example/datewarden/datewarden/XmlSchemaType;" (.ref a_G_MONTH_DAY)) (E_G_MONTH_DAY : Exa Z h0 a_G_MONTH_DAY "com/example/datewarden/datewarden/XmlSchemaType$6") :
    MetFree l (⟨"com/example/datewarden/datewarden/XmlSchemaTypeTakesDurationsPinLaw", "pick", "(I)Lcom/example/datewarden/datewarden/XmlSchemaType;"⟩ : MethodName) (head1 (Jvm.Cond.code (⟨"com/example/datewarden/datewarden/XmlSchemaTypeTakesDurationsPinLaw", "pick", "(I)Lcom/example/datewarden/datewarden/XmlSchemaType;"⟩ : MethodName) method_3_code 1 (some (.object "com/example/datewarden/datewarden/XmlSchemaType")) :: ws) ({ frames := 0, cells := 0, slots := 0, locals := 0 } : Room)) (fun a U => a = #[(.int (2 : Int32))] ∧ Z.Warmed39 U.vm ∧ U.heap = h0) (fun _ _ _ _ _ => True) (fun _ U o U' => ∃ v L, o = .returned v ∧ QP (.ref a_TIME) h0 n0 v U'.heap L ∧ FrameEnd U o U' L ({ frames := 0, cells := 0, slots := 0, locals := 0 } : Room).cells ({ frames := 0, cells := 0, slots := 0, locals := 0 } : Room).slots) := by
  refine MetFree.of_bodySF (plainFor_of_name own_pn0) hisR ?_
  intro p e s m args below meth c s₁ Bd hml0 hP hK
  obtain ⟨rfl, hZ, hh⟩ := hP
  have hx := Bd.exec
  have hby := Bd.bytes
  have hml : c.maxLocals = 1 := hml0
  have hown : s.vm.findClass "com/example/datewarden/datewarden/XmlSchemaTypeTakesDurationsPinLaw" = some m.cls := findClass_of_methodNamed Bd.named
  have hnm := (name_of_methodNamed Bd.named Bd.method).1
  have X0 : Stand p l e ({ frames := 0, cells := 0, slots := 0, locals := 0 } : Room) s m #[(.int (2 : Int32))] below meth c s₁ [] 0 0 := Stand.of_body Bd
  have e0 : s₁.heap = h0 := by rw [← hh, Bd.state]; rfl
  have N0 := Fr.nil n0
  have pre0 : ∀ t, Steps p.tables e below (s₁.setTop (mkF m 0 #[.val (.int (2 : Int32))] [])) t → Steps p.tables e below (s₁.setTop (entryFrame m #[(.int (2 : Int32))] 1)) t := fun t k => castTop (own_ef_rm1_2 m (2 : Int32)) k
  obtain ⟨T1, X1, e1, st1⟩ := getS2 X0 hx hZ hown (host := "") (Or.inl (hw _ (List.mem_of_getElem? (i := 20) rfl))) Via.refl e0 S_TIME (g := (mkF m 22 #[.val (.int (2 : Int32))] [])) rfl (hb hby own_d_method_3_code_22)
  have pre2 : ∀ t, Steps p.tables e below (T1.setTop (mkF m 25 #[.val (.int (2 : Int32))] [(.ref a_TIME)])) t → Steps p.tables e below (s₁.setTop (entryFrame m #[(.int (2 : Int32))] 1)) t := fun t k => pre0 t (by
    show Steps p.tables e below (s₁.setTop (mkF m 0 #[.val (.int (2 : Int32))] [])) _
    refine XS.iloadN X0.here hx rfl (hb hby own_d_method_3_code_0) rfl ?_
    show Steps p.tables e below (s₁.setTop (mkF m 1 #[.val (.int (2 : Int32))] [(.int (2 : Int32))])) _
    refine XS.ifYes X0.here hx rfl (pc0 := 1) (pc' := 8) rfl (hb hby own_d_method_3_code_1) rfl ((if0 _ _).trans (feq ((by decide) : ¬ ((2 : Int32) = (0 : Int32)))).2) (by decide) (by decide) ?_
    show Steps p.tables e below (s₁.setTop (mkF m 8 #[.val (.int (2 : Int32))] [])) _
    refine XS.iloadN X0.here hx rfl (hb hby own_d_method_3_code_8) rfl ?_
    show Steps p.tables e below (s₁.setTop (mkF m 9 #[.val (.int (2 : Int32))] [(.int (2 : Int32))])) _
    refine XS.iconst X0.here hx rfl (hb hby own_d_method_3_code_9) ?_
    show Steps p.tables e below (s₁.setTop (mkF m 10 #[.val (.int (2 : Int32))] [(.int (1 : Int32)), (.int (2 : Int32))])) _
    refine XS.icmpYes X0.here hx rfl (pc0 := 10) (pc' := 17) rfl (hb hby own_d_method_3_code_10) rfl (feq ((by decide) : ¬ ((2 : Int32) = (1 : Int32)))).2 (by decide) (by decide) ?_
    show Steps p.tables e below (s₁.setTop (mkF m 17 #[.val (.int (2 : Int32))] [])) _
    refine XS.iloadN X0.here hx rfl (hb hby own_d_method_3_code_17) rfl ?_
    show Steps p.tables e below (s₁.setTop (mkF m 18 #[.val (.int (2 : Int32))] [(.int (2 : Int32))])) _
    refine XS.iconst X0.here hx rfl (hb hby own_d_method_3_code_18) ?_
    show Steps p.tables e below (s₁.setTop (mkF m 19 #[.val (.int (2 : Int32))] [(.int (2 : Int32)), (.int (2 : Int32))])) _
    refine XS.icmpNo X0.here hx rfl (hb hby own_d_method_3_code_19) rfl (teq ((by decide) : (2 : Int32) = (2 : Int32))).2 ?_
    show Steps p.tables e below (s₁.setTop (mkF m 22 #[.val (.int (2 : Int32))] [])) _
    refine st1 _ ?_
    exact k)
  obtain ⟨fs, hr, hrun, hended, hW, hsame⟩ := X1.leave (v := some (.ref a_TIME)) (fun h => by rw [Bd.returns] at h; cases h)
  refine ⟨_, _, pre2 _ ?_, hrun, hended, _, _, rfl, ?_, ⟨_, rfl⟩, hW, hsame.mono (by decide) (by decide)⟩
  · show Steps p.tables e below (T1.setTop (mkF m 25 #[.val (.int (2 : Int32))] [(.ref a_TIME)])) _
    exact retOut X1 hx (t := (.object "com/example/datewarden/datewarden/XmlSchemaType")) (i := .areturn) Bd.returns rfl (Or.inr (Or.inr (Or.inr (Or.inr ⟨rfl, rfl, rfl⟩)))) (hb hby own_d_method_3_code_25) hr
  · show QP (.ref a_TIME) h0 n0 _ T1.heap _
    rw [e1]
    exact ⟨rfl, N0, rfl⟩
theorem own_ef_rm2_2 (m : MethodId) (y0 : Addr) : entryFrame m #[(.ref y0)] 1 = mkF m 0 #[.val (.ref y0)] [] := by first | (simp [entryFrame, mkF, argsToLocals, Value.category]; done) | rfl
set_option maxRecDepth 65536 in
set_option maxHeartbeats 40000000 in
theorem rm2_2 (l : Launch) (Z : State) (a0 : Array Value) (hw : ∀ d ∈ tables_1, d.before a0 Z = true) (ws : List Jvm.Cond) (a_DATE_TIME : Addr) (a_G_YEAR_MONTH : Addr) (a_DATE : Addr) (a_TIME : Addr) (a_G_YEAR : Addr) (a_G_MONTH : Addr) (a_DURATION : Addr) (a_G_DAY : Addr) (a_G_MONTH_DAY : Addr) (h0 : Heap) (n0 : Nat) (Z0 : n0 ≤ h0.size) (S_DATE_TIME : Sta Z h0 "com/example/datewarden/datewarden/XmlSchemaType" "DATE_TIME" "Lcom/example/datewarden/datewarden/XmlSchemaType;" (.ref a_DATE_TIME)) (E_DATE_TIME : Exa Z h0 a_DATE_TIME "com/example/datewarden/datewarden/XmlSchemaType$1") (S_G_YEAR_MONTH : Sta Z h0 "com/example/datewarden/datewarden/XmlSchemaType" "G_YEAR_MONTH" "Lcom/example/datewarden/datewarden/XmlSchemaType;" (.ref a_G_YEAR_MONTH)) (E_G_YEAR_MONTH : Exa Z h0 a_G_YEAR_MONTH "com/example/datewarden/datewarden/XmlSchemaType$4") (S_DATE : Sta Z h0 "com/example/datewarden/datewarden/XmlSchemaType" "DATE" "Lcom/example/datewarden/datewarden/XmlSchemaType;" (.ref a_DATE)) (E_DATE : Exa Z h0 a_DATE "com/example/datewarden/datewarden/XmlSchemaType$2") (S_TIME : Sta Z h0 "com/example/datewarden/datewarden/XmlSchemaType" "TIME" "Lcom/example/datewarden/datewarden/XmlSchemaType;" (.ref a_TIME)) (E_TIME : Exa Z h0 a_TIME "com/example/datewarden/datewarden/XmlSchemaType$3") (S_G_YEAR : Sta Z h0 "com/example/datewarden/datewarden/XmlSchemaType" "G_YEAR" "Lcom/example/datewarden/datewarden/XmlSchemaType;" (.ref a_G_YEAR)) (E_G_YEAR : Exa Z h0 a_G_YEAR "com/example/datewarden/datewarden/XmlSchemaType$5") (S_G_MONTH : Sta Z h0 "com/example/datewarden/datewarden/XmlSchemaType" "G_MONTH" "Lcom/example/datewarden/datewarden/XmlSchemaType;" (.ref a_G_MONTH)) (E_G_MONTH : Exa Z h0 a_G_MONTH "com/example/datewarden/datewarden/XmlSchemaType$8") (S_DURATION : Sta Z h0 "com/example/datewarden/datewarden/XmlSchemaType" "DURATION" "Lcom/example/datewarden/datewarden/XmlSchemaType;" (.ref a_DURATION)) (E_DURATION : Exa Z h0 a_DURATION "com/example/datewarden/datewarden/XmlSchemaType$9") (S_G_DAY : Sta Z h0 "com/example/datewarden/datewarden/XmlSchemaType" "G_DAY" "Lcom/example/datewarden/datewarden/XmlSchemaType;" (.ref a_G_DAY)) (E_G_DAY : Exa Z h0 a_G_DAY "com/example/datewarden/datewarden/XmlSchemaType$7") (S_G_MONTH_DAY : Sta Z h0 "com/example/datewarden/datewarden/XmlSchemaType" "G_MONTH_DAY" "Lcom/example/datewarden/datewarden/XmlSchemaType;" (.ref a_G_MONTH_DAY)) (E_G_MONTH_DAY : Exa Z h0 a_G_MONTH_DAY "com/example/datewarden/datewarden/XmlSchemaType$6") :
    MetFree l (⟨"com/example/datewarden/datewarden/XmlSchemaType", "takesDurations", "()Z"⟩ : MethodName) (head1 (Jvm.Cond.code (⟨"com/example/datewarden/datewarden/XmlSchemaType", "takesDurations", "()Z"⟩ : MethodName) prog_42_method_9_code 1 (some .boolean) :: ws) ({ frames := 0, cells := 0, slots := 0, locals := 0 } : Room)) (fun a U => a = #[(.ref a_TIME)] ∧ Z.Warmed39 U.vm ∧ U.heap = h0) (fun _ _ _ _ _ => True) (fun _ U o U' => ∃ v L, o = .returned v ∧ QP (.int (0 : Int32)) h0 n0 v U'.heap L ∧ FrameEnd U o U' L ({ frames := 0, cells := 0, slots := 0, locals := 0 } : Room).cells ({ frames := 0, cells := 0, slots := 0, locals := 0 } : Room).slots) := by
  refine MetFree.of_bodySF (plainFor_of_name own_pn1) hisR ?_
  intro p e s m args below meth c s₁ Bd hml0 hP hK
  obtain ⟨rfl, hZ, hh⟩ := hP
  have hx := Bd.exec
  have hby := Bd.bytes
  have hml : c.maxLocals = 1 := hml0
  have hown : s.vm.findClass "com/example/datewarden/datewarden/XmlSchemaType" = some m.cls := findClass_of_methodNamed Bd.named
  have hnm := (name_of_methodNamed Bd.named Bd.method).1
  have X0 : Stand p l e ({ frames := 0, cells := 0, slots := 0, locals := 0 } : Room) s m #[(.ref a_TIME)] below meth c s₁ [] 0 0 := Stand.of_body Bd
  have e0 : s₁.heap = h0 := by rw [← hh, Bd.state]; rfl
  have N0 := Fr.nil n0
  have pre0 : ∀ t, Steps p.tables e below (s₁.setTop (mkF m 0 #[.val (.ref a_TIME)] [])) t → Steps p.tables e below (s₁.setTop (entryFrame m #[(.ref a_TIME)] 1)) t := fun t k => castTop (own_ef_rm2_2 m a_TIME) k
  obtain ⟨T1, X1, e1, st1⟩ := getS2 X0 hx hZ hown (host := "") (Or.inl (hw _ (List.mem_of_getElem? (i := 13) rfl))) Via.refl e0 S_DATE_TIME (g := (mkF m 1 #[.val (.ref a_TIME)] [(.ref a_TIME)])) rfl (hb hby own_d_prog_42_method_9_code_1)
  obtain ⟨T2, X2, e2, st2⟩ := getS2 X1 hx hZ hown (host := "") (Or.inl (hw _ (List.mem_of_getElem? (i := 17) rfl))) Via.refl e1 S_DATE (g := (mkF m 8 #[.val (.ref a_TIME)] [(.ref a_TIME)])) rfl (hb hby own_d_prog_42_method_9_code_8)
  obtain ⟨T3, X3, e3, st3⟩ := getS2 X2 hx hZ hown (host := "") (Or.inl (hw _ (List.mem_of_getElem? (i := 19) rfl))) Via.refl e2 S_G_YEAR_MONTH (g := (mkF m 15 #[.val (.ref a_TIME)] [(.ref a_TIME)])) rfl (hb hby own_d_prog_42_method_9_code_15)
  obtain ⟨T4, X4, e4, st4⟩ := getS2 X3 hx hZ hown (host := "") (Or.inl (hw _ (List.mem_of_getElem? (i := 23) rfl))) Via.refl e3 S_G_YEAR (g := (mkF m 22 #[.val (.ref a_TIME)] [(.ref a_TIME)])) rfl (hb hby own_d_prog_42_method_9_code_22)
  have pre5 : ∀ t, Steps p.tables e below (T4.setTop (mkF m 33 #[.val (.ref a_TIME)] [(.int (0 : Int32))])) t → Steps p.tables e below (s₁.setTop (entryFrame m #[(.ref a_TIME)] 1)) t := fun t k => pre0 t (by
    show Steps p.tables e below (s₁.setTop (mkF m 0 #[.val (.ref a_TIME)] [])) _
    refine XS.aloadN X0.here hx rfl (hb hby own_d_prog_42_method_9_code_0) rfl rfl ?_
    show Steps p.tables e below (s₁.setTop (mkF m 1 #[.val (.ref a_TIME)] [(.ref a_TIME)])) _
    refine st1 _ ?_
    show Steps p.tables e below (T1.setTop (mkF m 4 #[.val (.ref a_TIME)] [(.ref a_DATE_TIME), (.ref a_TIME)])) _
    refine Jvm.RoadKit.acmp (g := (mkF m 4 #[.val (.ref a_TIME)] [(.ref a_DATE_TIME), (.ref a_TIME)])) X1 hx rfl rfl rfl (pc0 := 4) (pc' := 7) (same := false) rfl (hb hby own_d_prog_42_method_9_code_4) rfl (decide_eq_false fun q => ((ne_exa E_TIME E_DATE_TIME (by decide)) : ¬ (a_TIME = a_DATE_TIME)) (Value.ref.inj q)) (by decide) (by decide) ?_
    show Steps p.tables e below (T1.setTop (mkF m 7 #[.val (.ref a_TIME)] [])) _
    refine XS.aloadN X1.here hx rfl (hb hby own_d_prog_42_method_9_code_7) rfl rfl ?_
    show Steps p.tables e below (T1.setTop (mkF m 8 #[.val (.ref a_TIME)] [(.ref a_TIME)])) _
    refine st2 _ ?_
    show Steps p.tables e below (T2.setTop (mkF m 11 #[.val (.ref a_TIME)] [(.ref a_DATE), (.ref a_TIME)])) _
    refine Jvm.RoadKit.acmp (g := (mkF m 11 #[.val (.ref a_TIME)] [(.ref a_DATE), (.ref a_TIME)])) X2 hx rfl rfl rfl (pc0 := 11) (pc' := 14) (same := false) rfl (hb hby own_d_prog_42_method_9_code_11) rfl (decide_eq_false fun q => ((ne_exa E_TIME E_DATE (by decide)) : ¬ (a_TIME = a_DATE)) (Value.ref.inj q)) (by decide) (by decide) ?_
    show Steps p.tables e below (T2.setTop (mkF m 14 #[.val (.ref a_TIME)] [])) _
    refine XS.aloadN X2.here hx rfl (hb hby own_d_prog_42_method_9_code_14) rfl rfl ?_
    show Steps p.tables e below (T2.setTop (mkF m 15 #[.val (.ref a_TIME)] [(.ref a_TIME)])) _
    refine st3 _ ?_
    show Steps p.tables e below (T3.setTop (mkF m 18 #[.val (.ref a_TIME)] [(.ref a_G_YEAR_MONTH), (.ref a_TIME)])) _
    refine Jvm.RoadKit.acmp (g := (mkF m 18 #[.val (.ref a_TIME)] [(.ref a_G_YEAR_MONTH), (.ref a_TIME)])) X3 hx rfl rfl rfl (pc0 := 18) (pc' := 21) (same := false) rfl (hb hby own_d_prog_42_method_9_code_18) rfl (decide_eq_false fun q => ((ne_exa E_TIME E_G_YEAR_MONTH (by decide)) : ¬ (a_TIME = a_G_YEAR_MONTH)) (Value.ref.inj q)) (by decide) (by decide) ?_
    show Steps p.tables e below (T3.setTop (mkF m 21 #[.val (.ref a_TIME)] [])) _
    refine XS.aloadN X3.here hx rfl (hb hby own_d_prog_42_method_9_code_21) rfl rfl ?_
    show Steps p.tables e below (T3.setTop (mkF m 22 #[.val (.ref a_TIME)] [(.ref a_TIME)])) _
    refine st4 _ ?_
    show Steps p.tables e below (T4.setTop (mkF m 25 #[.val (.ref a_TIME)] [(.ref a_G_YEAR), (.ref a_TIME)])) _
    refine Jvm.RoadKit.acmp (g := (mkF m 25 #[.val (.ref a_TIME)] [(.ref a_G_YEAR), (.ref a_TIME)])) X4 hx rfl rfl rfl (pc0 := 25) (pc' := 32) (same := false) rfl (hb hby own_d_prog_42_method_9_code_25) rfl (decide_eq_false fun q => ((ne_exa E_TIME E_G_YEAR (by decide)) : ¬ (a_TIME = a_G_YEAR)) (Value.ref.inj q)) (by decide) (by decide) ?_
    show Steps p.tables e below (T4.setTop (mkF m 32 #[.val (.ref a_TIME)] [])) _
    refine XS.iconst X4.here hx rfl (hb hby own_d_prog_42_method_9_code_32) ?_
    exact k)
  obtain ⟨fs, hr, hrun, hended, hW, hsame⟩ := X4.leave (v := some (.int (nar .boolean (0 : Int32)))) (fun h => by rw [Bd.returns] at h; cases h)
  refine ⟨_, _, pre5 _ ?_, hrun, hended, _, _, rfl, ?_, ⟨_, rfl⟩, hW, hsame.mono (by decide) (by decide)⟩
  · show Steps p.tables e below (T4.setTop (mkF m 33 #[.val (.ref a_TIME)] [(.int (0 : Int32))])) _
    exact retN X4 hx (t := .boolean) Bd.returns (by simp) (hb hby own_d_prog_42_method_9_code_33) hr
  · show QP (.int (0 : Int32)) h0 n0 _ T4.heap _
    rw [e4]
    exact ⟨rfl, N0, rfl⟩
theorem own_ef_rm1_3 (m : MethodId) (y0 : Int32) : entryFrame m #[(.int y0)] 1 = mkF m 0 #[.val (.int y0)] [] := by first | (simp [entryFrame, mkF, argsToLocals, Value.category]; done) | rfl
set_option maxRecDepth 65536 in
set_option maxHeartbeats 40000000 in
theorem rm1_3 (l : Launch) (Z : State) (a0 : Array Value) (hw : ∀ d ∈ tables_1, d.before a0 Z = true) (ws : List Jvm.Cond) (a_DATE_TIME : Addr) (a_G_YEAR_MONTH : Addr) (a_DATE : Addr) (a_TIME : Addr) (a_G_YEAR : Addr) (a_G_MONTH : Addr) (a_DURATION : Addr) (a_G_DAY : Addr) (a_G_MONTH_DAY : Addr) (h0 : Heap) (n0 : Nat) (Z0 : n0 ≤ h0.size) (S_DATE_TIME : Sta Z h0 "com/example/datewarden/datewarden/XmlSchemaType" "DATE_TIME" "Lcom/example/datewarden/datewarden/XmlSchemaType;" (.ref a_DATE_TIME)) (E_DATE_TIME : Exa Z h0 a_DATE_TIME "com/example/datewarden/datewarden/XmlSchemaType$1") (S_G_YEAR_MONTH : Sta Z h0 "com/example/datewarden/datewarden/XmlSchemaType" "G_YEAR_MONTH" "Lcom/example/datewarden/datewarden/XmlSchemaType;" (.ref a_G_YEAR_MONTH)) (E_G_YEAR_MONTH : Exa Z h0 a_G_YEAR_MONTH "com/example/datewarden/datewarden/XmlSchemaType$4") (S_DATE : Sta Z h0 "com/example/datewarden/datewarden/XmlSchemaType" "DATE" "Lcom/example/datewarden/datewarden/XmlSchemaType;" (.ref a_DATE)) (E_DATE : Exa Z h0 a_DATE "com/example/datewarden/datewarden/XmlSchemaType$2") (S_TIME : Sta Z h0 "com/example/datewarden/datewarden/XmlSchemaType" "TIME" "Lcom/example/datewarden/datewarden/XmlSchemaType;" (.ref a_TIME)) (E_TIME : Exa Z h0 a_TIME "com/example/datewarden/datewarden/XmlSchemaType$3") (S_G_YEAR : Sta Z h0 "com/example/datewarden/datewarden/XmlSchemaType" "G_YEAR" "Lcom/example/datewarden/datewarden/XmlSchemaType;" (.ref a_G_YEAR)) (E_G_YEAR : Exa Z h0 a_G_YEAR "com/example/datewarden/datewarden/XmlSchemaType$5") (S_G_MONTH : Sta Z h0 "com/example/datewarden/datewarden/XmlSchemaType" "G_MONTH" "Lcom/example/datewarden/datewarden/XmlSchemaType;" (.ref a_G_MONTH)) (E_G_MONTH : Exa Z h0 a_G_MONTH "com/example/datewarden/datewarden/XmlSchemaType$8") (S_DURATION : Sta Z h0 "com/example/datewarden/datewarden/XmlSchemaType" "DURATION" "Lcom/example/datewarden/datewarden/XmlSchemaType;" (.ref a_DURATION)) (E_DURATION : Exa Z h0 a_DURATION "com/example/datewarden/datewarden/XmlSchemaType$9") (S_G_DAY : Sta Z h0 "com/example/datewarden/datewarden/XmlSchemaType" "G_DAY" "Lcom/example/datewarden/datewarden/XmlSchemaType;" (.ref a_G_DAY)) (E_G_DAY : Exa Z h0 a_G_DAY "com/example/datewarden/datewarden/XmlSchemaType$7") (S_G_MONTH_DAY : Sta Z h0 "com/example/datewarden/datewarden/XmlSchemaType" "G_MONTH_DAY" "Lcom/example/datewarden/datewarden/XmlSchemaType;" (.ref a_G_MONTH_DAY)) (E_G_MONTH_DAY : Exa Z h0 a_G_MONTH_DAY "com/example/datewarden/datewarden/XmlSchemaType$6") :
    MetFree l (⟨"com/example/datewarden/datewarden/XmlSchemaTypeTakesDurationsPinLaw", "pick", "(I)Lcom/example/datewarden/datewarden/XmlSchemaType;"⟩ : MethodName) (head1 (Jvm.Cond.code (⟨"com/example/datewarden/datewarden/XmlSchemaTypeTakesDurationsPinLaw", "pick", "(I)Lcom/example/datewarden/datewarden/XmlSchemaType;"⟩ : MethodName) method_3_code 1 (some (.object "com/example/datewarden/datewarden/XmlSchemaType")) :: ws) ({ frames := 0, cells := 0, slots := 0, locals := 0 } : Room)) (fun a U => a = #[(.int (3 : Int32))] ∧ Z.Warmed39 U.vm ∧ U.heap = h0) (fun _ _ _ _ _ => True) (fun _ U o U' => ∃ v L, o = .returned v ∧ QP (.ref a_G_YEAR_MONTH) h0 n0 v U'.heap L ∧ FrameEnd U o U' L ({ frames := 0, cells := 0, slots := 0, locals := 0 } : Room).cells ({ frames := 0, cells := 0, slots := 0, locals := 0 } : Room).slots) := by
  refine MetFree.of_bodySF (plainFor_of_name own_pn0) hisR ?_
  intro p e s m args below meth c s₁ Bd hml0 hP hK
  obtain ⟨rfl, hZ, hh⟩ := hP
  have hx := Bd.exec
  have hby := Bd.bytes
  have hml : c.maxLocals = 1 := hml0
  have hown : s.vm.findClass "com/example/datewarden/datewarden/XmlSchemaTypeTakesDurationsPinLaw" = some m.cls := findClass_of_methodNamed Bd.named
  have hnm := (name_of_methodNamed Bd.named Bd.method).1
  have X0 : Stand p l e ({ frames := 0, cells := 0, slots := 0, locals := 0 } : Room) s m #[(.int (3 : Int32))] below meth c s₁ [] 0 0 := Stand.of_body Bd
  have e0 : s₁.heap = h0 := by rw [← hh, Bd.state]; rfl
  have N0 := Fr.nil n0
  have pre0 : ∀ t, Steps p.tables e below (s₁.setTop (mkF m 0 #[.val (.int (3 : Int32))] [])) t → Steps p.tables e below (s₁.setTop (entryFrame m #[(.int (3 : Int32))] 1)) t := fun t k => castTop (own_ef_rm1_3 m (3 : Int32)) k
  obtain ⟨T1, X1, e1, st1⟩ := getS2 X0 hx hZ hown (host := "") (Or.inl (hw _ (List.mem_of_getElem? (i := 14) rfl))) Via.refl e0 S_G_YEAR_MONTH (g := (mkF m 31 #[.val (.int (3 : Int32))] [])) rfl (hb hby own_d_method_3_code_31)
  have pre2 : ∀ t, Steps p.tables e below (T1.setTop (mkF m 34 #[.val (.int (3 : Int32))] [(.ref a_G_YEAR_MONTH)])) t → Steps p.tables e below (s₁.setTop (entryFrame m #[(.int (3 : Int32))] 1)) t := fun t k => pre0 t (by
    show Steps p.tables e below (s₁.setTop (mkF m 0 #[.val (.int (3 : Int32))] [])) _
    refine XS.iloadN X0.here hx rfl (hb hby own_d_method_3_code_0) rfl ?_
    show Steps p.tables e below (s₁.setTop (mkF m 1 #[.val (.int (3 : Int32))] [(.int (3 : Int32))])) _
    refine XS.ifYes X0.here hx rfl (pc0 := 1) (pc' := 8) rfl (hb hby own_d_method_3_code_1) rfl ((if0 _ _).trans (feq ((by decide) : ¬ ((3 : Int32) = (0 : Int32)))).2) (by decide) (by decide) ?_
    show Steps p.tables e below (s₁.setTop (mkF m 8 #[.val (.int (3 : Int32))] [])) _
    refine XS.iloadN X0.here hx rfl (hb hby own_d_method_3_code_8) rfl ?_
    show Steps p.tables e below (s₁.setTop (mkF m 9 #[.val (.int (3 : Int32))] [(.int (3 : Int32))])) _
    refine XS.iconst X0.here hx rfl (hb hby own_d_method_3_code_9) ?_
    show Steps p.tables e below (s₁.setTop (mkF m 10 #[.val (.int (3 : Int32))] [(.int (1 : Int32)), (.int (3 : Int32))])) _
    refine XS.icmpYes X0.here hx rfl (pc0 := 10) (pc' := 17) rfl (hb hby own_d_method_3_code_10) rfl (feq ((by decide) : ¬ ((3 : Int32) = (1 : Int32)))).2 (by decide) (by decide) ?_
    show Steps p.tables e below (s₁.setTop (mkF m 17 #[.val (.int (3 : Int32))] [])) _
    refine XS.iloadN X0.here hx rfl (hb hby own_d_method_3_code_17) rfl ?_
    show Steps p.tables e below (s₁.setTop (mkF m 18 #[.val (.int (3 : Int32))] [(.int (3 : Int32))])) _
    refine XS.iconst X0.here hx rfl (hb hby own_d_method_3_code_18) ?_
    show Steps p.tables e below (s₁.setTop (mkF m 19 #[.val (.int (3 : Int32))] [(.int (2 : Int32)), (.int (3 : Int32))])) _
    refine XS.icmpYes X0.here hx rfl (pc0 := 19) (pc' := 26) rfl (hb hby own_d_method_3_code_19) rfl (feq ((by decide) : ¬ ((3 : Int32) = (2 : Int32)))).2 (by decide) (by decide) ?_
    show Steps p.tables e below (s₁.setTop (mkF m 26 #[.val (.int (3 : Int32))] [])) _
    refine XS.iloadN X0.here hx rfl (hb hby own_d_method_3_code_26) rfl ?_
    show Steps p.tables e below (s₁.setTop (mkF m 27 #[.val (.int (3 : Int32))] [(.int (3 : Int32))])) _
    refine XS.iconst X0.here hx rfl (hb hby own_d_method_3_code_27) ?_
    show Steps p.tables e below (s₁.setTop (mkF m 28 #[.val (.int (3 : Int32))] [(.int (3 : Int32)), (.int (3 : Int32))])) _
    refine XS.icmpNo X0.here hx rfl (hb hby own_d_method_3_code_28) rfl (teq ((by decide) : (3 : Int32) = (3 : Int32))).2 ?_
    show Steps p.tables e below (s₁.setTop (mkF m 31 #[.val (.int (3 : Int32))] [])) _
    refine st1 _ ?_
    exact k)
  obtain ⟨fs, hr, hrun, hended, hW, hsame⟩ := X1.leave (v := some (.ref a_G_YEAR_MONTH)) (fun h => by rw [Bd.returns] at h; cases h)
  refine ⟨_, _, pre2 _ ?_, hrun, hended, _, _, rfl, ?_, ⟨_, rfl⟩, hW, hsame.mono (by decide) (by decide)⟩
  · show Steps p.tables e below (T1.setTop (mkF m 34 #[.val (.int (3 : Int32))] [(.ref a_G_YEAR_MONTH)])) _
    exact retOut X1 hx (t := (.object "com/example/datewarden/datewarden/XmlSchemaType")) (i := .areturn) Bd.returns rfl (Or.inr (Or.inr (Or.inr (Or.inr ⟨rfl, rfl, rfl⟩)))) (hb hby own_d_method_3_code_34) hr
  · show QP (.ref a_G_YEAR_MONTH) h0 n0 _ T1.heap _
    rw [e1]
    exact ⟨rfl, N0, rfl⟩
theorem own_ef_rm2_3 (m : MethodId) (y0 : Addr) : entryFrame m #[(.ref y0)] 1 = mkF m 0 #[.val (.ref y0)] [] := by first | (simp [entryFrame, mkF, argsToLocals, Value.category]; done) | rfl
set_option maxRecDepth 65536 in
set_option maxHeartbeats 40000000 in
theorem rm2_3 (l : Launch) (Z : State) (a0 : Array Value) (hw : ∀ d ∈ tables_1, d.before a0 Z = true) (ws : List Jvm.Cond) (a_DATE_TIME : Addr) (a_G_YEAR_MONTH : Addr) (a_DATE : Addr) (a_TIME : Addr) (a_G_YEAR : Addr) (a_G_MONTH : Addr) (a_DURATION : Addr) (a_G_DAY : Addr) (a_G_MONTH_DAY : Addr) (h0 : Heap) (n0 : Nat) (Z0 : n0 ≤ h0.size) (S_DATE_TIME : Sta Z h0 "com/example/datewarden/datewarden/XmlSchemaType" "DATE_TIME" "Lcom/example/datewarden/datewarden/XmlSchemaType;" (.ref a_DATE_TIME)) (E_DATE_TIME : Exa Z h0 a_DATE_TIME "com/example/datewarden/datewarden/XmlSchemaType$1") (S_G_YEAR_MONTH : Sta Z h0 "com/example/datewarden/datewarden/XmlSchemaType" "G_YEAR_MONTH" "Lcom/example/datewarden/datewarden/XmlSchemaType;" (.ref a_G_YEAR_MONTH)) (E_G_YEAR_MONTH : Exa Z h0 a_G_YEAR_MONTH "com/example/datewarden/datewarden/XmlSchemaType$4") (S_DATE : Sta Z h0 "com/example/datewarden/datewarden/XmlSchemaType" "DATE" "Lcom/example/datewarden/datewarden/XmlSchemaType;" (.ref a_DATE)) (E_DATE : Exa Z h0 a_DATE "com/example/datewarden/datewarden/XmlSchemaType$2") (S_TIME : Sta Z h0 "com/example/datewarden/datewarden/XmlSchemaType" "TIME" "Lcom/example/datewarden/datewarden/XmlSchemaType;" (.ref a_TIME)) (E_TIME : Exa Z h0 a_TIME "com/example/datewarden/datewarden/XmlSchemaType$3") (S_G_YEAR : Sta Z h0 "com/example/datewarden/datewarden/XmlSchemaType" "G_YEAR" "Lcom/example/datewarden/datewarden/XmlSchemaType;" (.ref a_G_YEAR)) (E_G_YEAR : Exa Z h0 a_G_YEAR "com/example/datewarden/datewarden/XmlSchemaType$5") (S_G_MONTH : Sta Z h0 "com/example/datewarden/datewarden/XmlSchemaType" "G_MONTH" "Lcom/example/datewarden/datewarden/XmlSchemaType;" (.ref a_G_MONTH)) (E_G_MONTH : Exa Z h0 a_G_MONTH "com/example/datewarden/datewarden/XmlSchemaType$8") (S_DURATION : Sta Z h0 "com/example/datewarden/datewarden/XmlSchemaType" "DURATION" "Lcom/example/datewarden/datewarden/XmlSchemaType;" (.ref a_DURATION)) (E_DURATION : Exa Z h0 a_DURATION "com/example/datewarden/datewarden/XmlSchemaType$9") (S_G_DAY : Sta Z h0 "com/example/datewarden/datewarden/XmlSchemaType" "G_DAY" "Lcom/example/datewarden/datewarden/XmlSchemaType;" (.ref a_G_DAY)) (E_G_DAY : Exa Z h0 a_G_DAY "com/example/datewarden/datewarden/XmlSchemaType$7") (S_G_MONTH_DAY : Sta Z h0 "com/example/datewarden/datewarden/XmlSchemaType" "G_MONTH_DAY" "Lcom/example/datewarden/datewarden/XmlSchemaType;" (.ref a_G_MONTH_DAY)) (E_G_MONTH_DAY : Exa Z h0 a_G_MONTH_DAY "com/example/datewarden/datewarden/XmlSchemaType$6") :
    MetFree l (⟨"com/example/datewarden/datewarden/XmlSchemaType", "takesDurations", "()Z"⟩ : MethodName) (head1 (Jvm.Cond.code (⟨"com/example/datewarden/datewarden/XmlSchemaType", "takesDurations", "()Z"⟩ : MethodName) prog_42_method_9_code 1 (some .boolean) :: ws) ({ frames := 0, cells := 0, slots := 0, locals := 0 } : Room)) (fun a U => a = #[(.ref a_G_YEAR_MONTH)] ∧ Z.Warmed39 U.vm ∧ U.heap = h0) (fun _ _ _ _ _ => True) (fun _ U o U' => ∃ v L, o = .returned v ∧ QP (.int (1 : Int32)) h0 n0 v U'.heap L ∧ FrameEnd U o U' L ({ frames := 0, cells := 0, slots := 0, locals := 0 } : Room).cells ({ frames := 0, cells := 0, slots := 0, locals := 0 } : Room).slots) := by
  refine MetFree.of_bodySF (plainFor_of_name own_pn1) hisR ?_
  intro p e s m args below meth c s₁ Bd hml0 hP hK
  obtain ⟨rfl, hZ, hh⟩ := hP
  have hx := Bd.exec
  have hby := Bd.bytes
  have hml : c.maxLocals = 1 := hml0
  have hown : s.vm.findClass "com/example/datewarden/datewarden/XmlSchemaType" = some m.cls := findClass_of_methodNamed Bd.named
  have hnm := (name_of_methodNamed Bd.named Bd.method).1
  have X0 : Stand p l e ({ frames := 0, cells := 0, slots := 0, locals := 0 } : Room) s m #[(.ref a_G_YEAR_MONTH)] below meth c s₁ [] 0 0 := Stand.of_body Bd
  have e0 : s₁.heap = h0 := by rw [← hh, Bd.state]; rfl
  have N0 := Fr.nil n0
  have pre0 : ∀ t, Steps p.tables e below (s₁.setTop (mkF m 0 #[.val (.ref a_G_YEAR_MONTH)] [])) t → Steps p.tables e below (s₁.setTop (entryFrame m #[(.ref a_G_YEAR_MONTH)] 1)) t := fun t k => castTop (own_ef_rm2_3 m a_G_YEAR_MONTH) k
  obtain ⟨T1, X1, e1, st1⟩ := getS2 X0 hx hZ hown (host := "") (Or.inl (hw _ (List.mem_of_getElem? (i := 13) rfl))) Via.refl e0 S_DATE_TIME (g := (mkF m 1 #[.val (.ref a_G_YEAR_MONTH)] [(.ref a_G_YEAR_MONTH)])) rfl (hb hby own_d_prog_42_method_9_code_1)
  obtain ⟨T2, X2, e2, st2⟩ := getS2 X1 hx hZ hown (host := "") (Or.inl (hw _ (List.mem_of_getElem? (i := 17) rfl))) Via.refl e1 S_DATE (g := (mkF m 8 #[.val (.ref a_G_YEAR_MONTH)] [(.ref a_G_YEAR_MONTH)])) rfl (hb hby own_d_prog_42_method_9_code_8)
  obtain ⟨T3, X3, e3, st3⟩ := getS2 X2 hx hZ hown (host := "") (Or.inl (hw _ (List.mem_of_getElem? (i := 19) rfl))) Via.refl e2 S_G_YEAR_MONTH (g := (mkF m 15 #[.val (.ref a_G_YEAR_MONTH)] [(.ref a_G_YEAR_MONTH)])) rfl (hb hby own_d_prog_42_method_9_code_15)
  have pre4 : ∀ t, Steps p.tables e below (T3.setTop (mkF m 33 #[.val (.ref a_G_YEAR_MONTH)] [(.int (1 : Int32))])) t → Steps p.tables e below (s₁.setTop (entryFrame m #[(.ref a_G_YEAR_MONTH)] 1)) t := fun t k => pre0 t (by
    show Steps p.tables e below (s₁.setTop (mkF m 0 #[.val (.ref a_G_YEAR_MONTH)] [])) _
    refine XS.aloadN X0.here hx rfl (hb hby own_d_prog_42_method_9_code_0) rfl rfl ?_
    show Steps p.tables e below (s₁.setTop (mkF m 1 #[.val (.ref a_G_YEAR_MONTH)] [(.ref a_G_YEAR_MONTH)])) _
    refine st1 _ ?_
    show Steps p.tables e below (T1.setTop (mkF m 4 #[.val (.ref a_G_YEAR_MONTH)] [(.ref a_DATE_TIME), (.ref a_G_YEAR_MONTH)])) _
    refine Jvm.RoadKit.acmp (g := (mkF m 4 #[.val (.ref a_G_YEAR_MONTH)] [(.ref a_DATE_TIME), (.ref a_G_YEAR_MONTH)])) X1 hx rfl rfl rfl (pc0 := 4) (pc' := 7) (same := false) rfl (hb hby own_d_prog_42_method_9_code_4) rfl (decide_eq_false fun q => ((ne_exa E_G_YEAR_MONTH E_DATE_TIME (by decide)) : ¬ (a_G_YEAR_MONTH = a_DATE_TIME)) (Value.ref.inj q)) (by decide) (by decide) ?_
    show Steps p.tables e below (T1.setTop (mkF m 7 #[.val (.ref a_G_YEAR_MONTH)] [])) _
    refine XS.aloadN X1.here hx rfl (hb hby own_d_prog_42_method_9_code_7) rfl rfl ?_
    show Steps p.tables e below (T1.setTop (mkF m 8 #[.val (.ref a_G_YEAR_MONTH)] [(.ref a_G_YEAR_MONTH)])) _
    refine st2 _ ?_
    show Steps p.tables e below (T2.setTop (mkF m 11 #[.val (.ref a_G_YEAR_MONTH)] [(.ref a_DATE), (.ref a_G_YEAR_MONTH)])) _
    refine Jvm.RoadKit.acmp (g := (mkF m 11 #[.val (.ref a_G_YEAR_MONTH)] [(.ref a_DATE), (.ref a_G_YEAR_MONTH)])) X2 hx rfl rfl rfl (pc0 := 11) (pc' := 14) (same := false) rfl (hb hby own_d_prog_42_method_9_code_11) rfl (decide_eq_false fun q => ((ne_exa E_G_YEAR_MONTH E_DATE (by decide)) : ¬ (a_G_YEAR_MONTH = a_DATE)) (Value.ref.inj q)) (by decide) (by decide) ?_
    show Steps p.tables e below (T2.setTop (mkF m 14 #[.val (.ref a_G_YEAR_MONTH)] [])) _
    refine XS.aloadN X2.here hx rfl (hb hby own_d_prog_42_method_9_code_14) rfl rfl ?_
    show Steps p.tables e below (T2.setTop (mkF m 15 #[.val (.ref a_G_YEAR_MONTH)] [(.ref a_G_YEAR_MONTH)])) _
    refine st3 _ ?_
    show Steps p.tables e below (T3.setTop (mkF m 18 #[.val (.ref a_G_YEAR_MONTH)] [(.ref a_G_YEAR_MONTH), (.ref a_G_YEAR_MONTH)])) _
    refine Jvm.RoadKit.acmp (g := (mkF m 18 #[.val (.ref a_G_YEAR_MONTH)] [(.ref a_G_YEAR_MONTH), (.ref a_G_YEAR_MONTH)])) X3 hx rfl rfl rfl (pc0 := 18) (pc' := 28) (same := true) rfl (hb hby own_d_prog_42_method_9_code_18) rfl (decide_eq_true (rfl)) (by decide) (by decide) ?_
    show Steps p.tables e below (T3.setTop (mkF m 28 #[.val (.ref a_G_YEAR_MONTH)] [])) _
    refine XS.iconst X3.here hx rfl (hb hby own_d_prog_42_method_9_code_28) ?_
    show Steps p.tables e below (T3.setTop (mkF m 29 #[.val (.ref a_G_YEAR_MONTH)] [(.int (1 : Int32))])) _
    refine XS.goto X3.here hx rfl (pc0 := 29) (pc' := 33) rfl (hb hby own_d_prog_42_method_9_code_29) (by decide) (by decide) ?_
    exact k)
  obtain ⟨fs, hr, hrun, hended, hW, hsame⟩ := X3.leave (v := some (.int (nar .boolean (1 : Int32)))) (fun h => by rw [Bd.returns] at h; cases h)
  refine ⟨_, _, pre4 _ ?_, hrun, hended, _, _, rfl, ?_, ⟨_, rfl⟩, hW, hsame.mono (by decide) (by decide)⟩
  · show Steps p.tables e below (T3.setTop (mkF m 33 #[.val (.ref a_G_YEAR_MONTH)] [(.int (1 : Int32))])) _
    exact retN X3 hx (t := .boolean) Bd.returns (by simp) (hb hby own_d_prog_42_method_9_code_33) hr
  · show QP (.int (1 : Int32)) h0 n0 _ T3.heap _
    rw [e3]
    exact ⟨rfl, N0, rfl⟩
theorem own_ef_rm1_4 (m : MethodId) (y0 : Int32) : entryFrame m #[(.int y0)] 1 = mkF m 0 #[.val (.int y0)] [] := by first | (simp [entryFrame, mkF, argsToLocals, Value.category]; done) | rfl
set_option maxRecDepth 65536 in
set_option maxHeartbeats 40000000 in
theorem rm1_4 (l : Launch) (Z : State) (a0 : Array Value) (hw : ∀ d ∈ tables_1, d.before a0 Z = true) (ws : List Jvm.Cond) (a_DATE_TIME : Addr) (a_G_YEAR_MONTH : Addr) (a_DATE : Addr) (a_TIME : Addr) (a_G_YEAR : Addr) (a_G_MONTH : Addr) (a_DURATION : Addr) (a_G_DAY : Addr) (a_G_MONTH_DAY : Addr) (h0 : Heap) (n0 : Nat) (Z0 : n0 ≤ h0.size) (S_DATE_TIME : Sta Z h0 "com/example/datewarden/datewarden/XmlSchemaType" "DATE_TIME" "Lcom/example/datewarden/datewarden/XmlSchemaType;" (.ref a_DATE_TIME)) (E_DATE_TIME : Exa Z h0 a_DATE_TIME "com/example/datewarden/datewarden/XmlSchemaType$1") (S_G_YEAR_MONTH : Sta Z h0 "com/example/datewarden/datewarden/XmlSchemaType" "G_YEAR_MONTH" "Lcom/example/datewarden/datewarden/XmlSchemaType;" (.ref a_G_YEAR_MONTH)) (E_G_YEAR_MONTH : Exa Z h0 a_G_YEAR_MONTH "com/example/datewarden/datewarden/XmlSchemaType$4") (S_DATE : Sta Z h0 "com/example/datewarden/datewarden/XmlSchemaType" "DATE" "Lcom/example/datewarden/datewarden/XmlSchemaType;" (.ref a_DATE)) (E_DATE : Exa Z h0 a_DATE "com/example/datewarden/datewarden/XmlSchemaType$2") (S_TIME : Sta Z h0 "com/example/datewarden/datewarden/XmlSchemaType" "TIME" "Lcom/example/datewarden/datewarden/XmlSchemaType;" (.ref a_TIME)) (E_TIME : Exa Z h0 a_TIME "com/example/datewarden/datewarden/XmlSchemaType$3") (S_G_YEAR : Sta Z h0 "com/example/datewarden/datewarden/XmlSchemaType" "G_YEAR" "Lcom/example/datewarden/datewarden/XmlSchemaType;" (.ref a_G_YEAR)) (E_G_YEAR : Exa Z h0 a_G_YEAR "com/example/datewarden/datewarden/XmlSchemaType$5") (S_G_MONTH : Sta Z h0 "com/example/datewarden/datewarden/XmlSchemaType" "G_MONTH" "Lcom/example/datewarden/datewarden/XmlSchemaType;" (.ref a_G_MONTH)) (E_G_MONTH : Exa Z h0 a_G_MONTH "com/example/datewarden/datewarden/XmlSchemaType$8") (S_DURATION : Sta Z h0 "com/example/datewarden/datewarden/XmlSchemaType" "DURATION" "Lcom/example/datewarden/datewarden/XmlSchemaType;" (.ref a_DURATION)) (E_DURATION : Exa Z h0 a_DURATION "com/example/datewarden/datewarden/XmlSchemaType$9") (S_G_DAY : Sta Z h0 "com/example/datewarden/datewarden/XmlSchemaType" "G_DAY" "Lcom/example/datewarden/datewarden/XmlSchemaType;" (.ref a_G_DAY)) (E_G_DAY : Exa Z h0 a_G_DAY "com/example/datewarden/datewarden/XmlSchemaType$7") (S_G_MONTH_DAY : Sta Z h0 "com/example/datewarden/datewarden/XmlSchemaType" "G_MONTH_DAY" "Lcom/example/datewarden/datewarden/XmlSchemaType;" (.ref a_G_MONTH_DAY)) (E_G_MONTH_DAY : Exa Z h0 a_G_MONTH_DAY "com/example/datewarden/datewarden/XmlSchemaType$6") :
    MetFree l (⟨"com/example/datewarden/datewarden/XmlSchemaTypeTakesDurationsPinLaw", "pick", "(I)Lcom/example/datewarden/datewarden/XmlSchemaType;"⟩ : MethodName) (head1 (Jvm.Cond.code (⟨"com/example/datewarden/datewarden/XmlSchemaTypeTakesDurationsPinLaw", "pick", "(I)Lcom/example/datewarden/datewarden/XmlSchemaType;"⟩ : MethodName) method_3_code 1 (some (.object "com/example/datewarden/datewarden/XmlSchemaType")) :: ws) ({ frames := 0, cells := 0, slots := 0, locals := 0 } : Room)) (fun a U => a = #[(.int (4 : Int32))] ∧ Z.Warmed39 U.vm ∧ U.heap = h0) (fun _ _ _ _ _ => True) (fun _ U o U' => ∃ v L, o = .returned v ∧ QP (.ref a_G_YEAR) h0 n0 v U'.heap L ∧ FrameEnd U o U' L ({ frames := 0, cells := 0, slots := 0, locals := 0 } : Room).cells ({ frames := 0, cells := 0, slots := 0, locals := 0 } : Room).slots) := by
  refine MetFree.of_bodySF (plainFor_of_name own_pn0) hisR ?_
  intro p e s m args below meth c s₁ Bd hml0 hP hK
  obtain ⟨rfl, hZ, hh⟩ := hP
  have hx := Bd.exec
  have hby := Bd.bytes
  have hml : c.maxLocals = 1 := hml0
  have hown : s.vm.findClass "com/example/datewarden/datewarden/XmlSchemaTypeTakesDurationsPinLaw" = some m.cls := findClass_of_methodNamed Bd.named
  have hnm := (name_of_methodNamed Bd.named Bd.method).1
  have X0 : Stand p l e ({ frames := 0, cells := 0, slots := 0, locals := 0 } : Room) s m #[(.int (4 : Int32))] below meth c s₁ [] 0 0 := Stand.of_body Bd
  have e0 : s₁.heap = h0 := by rw [← hh, Bd.state]; rfl
  have N0 := Fr.nil n0
  have pre0 : ∀ t, Steps p.tables e below (s₁.setTop (mkF m 0 #[.val (.int (4 : Int32))] [])) t → Steps p.tables e below (s₁.setTop (entryFrame m #[(.int (4 : Int32))] 1)) t := fun t k => castTop (own_ef_rm1_4 m (4 : Int32)) k
  obtain ⟨T1, X1, e1, st1⟩ := getS2 X0 hx hZ hown (host := "") (Or.inl (hw _ (List.mem_of_getElem? (i := 30) rfl))) Via.refl e0 S_G_YEAR (g := (mkF m 40 #[.val (.int (4 : Int32))] [])) rfl (hb hby own_d_method_3_code_40)
  have pre2 : ∀ t, Steps p.tables e below (T1.setTop (mkF m 43 #[.val (.int (4 : Int32))] [(.ref a_G_YEAR)])) t → Steps p.tables e below (s₁.setTop (entryFrame m #[(.int (4 : Int32))] 1)) t := fun t k => pre0 t (by
    show Steps p.tables e below (s₁.setTop (mkF m 0 #[.val (.int (4 : Int32))] [])) _
    refine XS.iloadN X0.here hx rfl (hb hby own_d_method_3_code_0) rfl ?_
    show Steps p.tables e below (s₁.setTop (mkF m 1 #[.val (.int (4 : Int32))] [(.int (4 : Int32))])) _
    refine XS.ifYes X0.here hx rfl (pc0 := 1) (pc' := 8) rfl (hb hby own_d_method_3_code_1) rfl ((if0 _ _).trans (feq ((by decide) : ¬ ((4 : Int32) = (0 : Int32)))).2) (by decide) (by decide) ?_
    show Steps p.tables e below (s₁.setTop (mkF m 8 #[.val (.int (4 : Int32))] [])) _
    refine XS.iloadN X0.here hx rfl (hb hby own_d_method_3_code_8) rfl ?_
    show Steps p.tables e below (s₁.setTop (mkF m 9 #[.val (.int (4 : Int32))] [(.int (4 : Int32))])) _
    refine XS.iconst X0.here hx rfl (hb hby own_d_method_3_code_9) ?_
    show Steps p.tables e below (s₁.setTop (mkF m 10 #[.val (.int (4 : Int32))] [(.int (1 : Int32)), (.int (4 : Int32))])) _
    refine XS.icmpYes X0.here hx rfl (pc0 := 10) (pc' := 17) rfl (hb hby own_d_method_3_code_10) rfl (feq ((by decide) : ¬ ((4 : Int32) = (1 : Int32)))).2 (by decide) (by decide) ?_
    show Steps p.tables e below (s₁.setTop (mkF m 17 #[.val (.int (4 : Int32))] [])) _
    refine XS.iloadN X0.here hx rfl (hb hby own_d_method_3_code_17) rfl ?_
    show Steps p.tables e below (s₁.setTop (mkF m 18 #[.val (.int (4 : Int32))] [(.int (4 : Int32))])) _
    refine XS.iconst X0.here hx rfl (hb hby own_d_method_3_code_18) ?_
    show Steps p.tables e below (s₁.setTop (mkF m 19 #[.val (.int (4 : Int32))] [(.int (2 : Int32)), (.int (4 : Int32))])) _
    refine XS.icmpYes X0.here hx rfl (pc0 := 19) (pc' := 26) rfl (hb hby own_d_method_3_code_19) rfl (feq ((by decide) : ¬ ((4 : Int32) = (2 : Int32)))).2 (by decide) (by decide) ?_
    show Steps p.tables e below (s₁.setTop (mkF m 26 #[.val (.int (4 : Int32))] [])) _
    refine XS.iloadN X0.here hx rfl (hb hby own_d_method_3_code_26) rfl ?_
    show Steps p.tables e below (s₁.setTop (mkF m 27 #[.val (.int (4 : Int32))] [(.int (4 : Int32))])) _
    refine XS.iconst X0.here hx rfl (hb hby own_d_method_3_code_27) ?_
    show Steps p.tables e below (s₁.setTop (mkF m 28 #[.val (.int (4 : Int32))] [(.int (3 : Int32)), (.int (4 : Int32))])) _
    refine XS.icmpYes X0.here hx rfl (pc0 := 28) (pc' := 35) rfl (hb hby own_d_method_3_code_28) rfl (feq ((by decide) : ¬ ((4 : Int32) = (3 : Int32)))).2 (by decide) (by decide) ?_
    show Steps p.tables e below (s₁.setTop (mkF m 35 #[.val (.int (4 : Int32))] [])) _
    refine XS.iloadN X0.here hx rfl (hb hby own_d_method_3_code_35) rfl ?_
    show Steps p.tables e below (s₁.setTop (mkF m 36 #[.val (.int (4 : Int32))] [(.int (4 : Int32))])) _
    refine XS.iconst X0.here hx rfl (hb hby own_d_method_3_code_36) ?_
    show Steps p.tables e below (s₁.setTop (mkF m 37 #[.val (.int (4 : Int32))] [(.int (4 : Int32)), (.int (4 : Int32))])) _
    refine XS.icmpNo X0.here hx rfl (hb hby own_d_method_3_code_37) rfl (teq ((by decide) : (4 : Int32) = (4 : Int32))).2 ?_
    show Steps p.tables e below (s₁.setTop (mkF m 40 #[.val (.int (4 : Int32))] [])) _
    refine st1 _ ?_
    exact k)
  obtain ⟨fs, hr, hrun, hended, hW, hsame⟩ := X1.leave (v := some (.ref a_G_YEAR)) (fun h => by rw [Bd.returns] at h; cases h)
  refine ⟨_, _, pre2 _ ?_, hrun, hended, _, _, rfl, ?_, ⟨_, rfl⟩, hW, hsame.mono (by decide) (by decide)⟩
  · show Steps p.tables e below (T1.setTop (mkF m 43 #[.val (.int (4 : Int32))] [(.ref a_G_YEAR)])) _
    exact retOut X1 hx (t := (.object "com/example/datewarden/datewarden/XmlSchemaType")) (i := .areturn) Bd.returns rfl (Or.inr (Or.inr (Or.inr (Or.inr ⟨rfl, rfl, rfl⟩)))) (hb hby own_d_method_3_code_43) hr
  · show QP (.ref a_G_YEAR) h0 n0 _ T1.heap _
    rw [e1]
    exact ⟨rfl, N0, rfl⟩
theorem own_ef_rm2_4 (m : MethodId) (y0 : Addr) : entryFrame m #[(.ref y0)] 1 = mkF m 0 #[.val (.ref y0)] [] := by first | (simp [entryFrame, mkF, argsToLocals, Value.category]; done) | rfl
set_option maxRecDepth 65536 in
set_option maxHeartbeats 40000000 in
theorem rm2_4 (l : Launch) (Z : State) (a0 : Array Value) (hw : ∀ d ∈ tables_1, d.before a0 Z = true) (ws : List Jvm.Cond) (a_DATE_TIME : Addr) (a_G_YEAR_MONTH : Addr) (a_DATE : Addr) (a_TIME : Addr) (a_G_YEAR : Addr) (a_G_MONTH : Addr) (a_DURATION : Addr) (a_G_DAY : Addr) (a_G_MONTH_DAY : Addr) (h0 : Heap) (n0 : Nat) (Z0 : n0 ≤ h0.size) (S_DATE_TIME : Sta Z h0 "com/example/datewarden/datewarden/XmlSchemaType" "DATE_TIME" "Lcom/example/datewarden/datewarden/XmlSchemaType;" (.ref a_DATE_TIME)) (E_DATE_TIME : Exa Z h0 a_DATE_TIME "com/example/datewarden/datewarden/XmlSchemaType$1") (S_G_YEAR_MONTH : Sta Z h0 "com/example/datewarden/datewarden/XmlSchemaType" "G_YEAR_MONTH" "Lcom/example/datewarden/datewarden/XmlSchemaType;" (.ref a_G_YEAR_MONTH)) (E_G_YEAR_MONTH : Exa Z h0 a_G_YEAR_MONTH "com/example/datewarden/datewarden/XmlSchemaType$4") (S_DATE : Sta Z h0 "com/example/datewarden/datewarden/XmlSchemaType" "DATE" "Lcom/example/datewarden/datewarden/XmlSchemaType;" (.ref a_DATE)) (E_DATE : Exa Z h0 a_DATE "com/example/datewarden/datewarden/XmlSchemaType$2") (S_TIME : Sta Z h0 "com/example/datewarden/datewarden/XmlSchemaType" "TIME" "Lcom/example/datewarden/datewarden/XmlSchemaType;" (.ref a_TIME)) (E_TIME : Exa Z h0 a_TIME "com/example/datewarden/datewarden/XmlSchemaType$3") (S_G_YEAR : Sta Z h0 "com/example/datewarden/datewarden/XmlSchemaType" "G_YEAR" "Lcom/example/datewarden/datewarden/XmlSchemaType;" (.ref a_G_YEAR)) (E_G_YEAR : Exa Z h0 a_G_YEAR "com/example/datewarden/datewarden/XmlSchemaType$5") (S_G_MONTH : Sta Z h0 "com/example/datewarden/datewarden/XmlSchemaType" "G_MONTH" "Lcom/example/datewarden/datewarden/XmlSchemaType;" (.ref a_G_MONTH)) (E_G_MONTH : Exa Z h0 a_G_MONTH "com/example/datewarden/datewarden/XmlSchemaType$8") (S_DURATION : Sta Z h0 "com/example/datewarden/datewarden/XmlSchemaType" "DURATION" "Lcom/example/datewarden/datewarden/XmlSchemaType;" (.ref a_DURATION)) (E_DURATION : Exa Z h0 a_DURATION "com/example/datewarden/datewarden/XmlSchemaType$9") (S_G_DAY : Sta Z h0 "com/example/datewarden/datewarden/XmlSchemaType" "G_DAY" "Lcom/example/datewarden/datewarden/XmlSchemaType;" (.ref a_G_DAY)) (E_G_DAY : Exa Z h0 a_G_DAY "com/example/datewarden/datewarden/XmlSchemaType$7") (S_G_MONTH_DAY : Sta Z h0 "com/example/datewarden/datewarden/XmlSchemaType" "G_MONTH_DAY" "Lcom/example/datewarden/datewarden/XmlSchemaType;" (.ref a_G_MONTH_DAY)) (E_G_MONTH_DAY : Exa Z h0 a_G_MONTH_DAY "com/example/datewarden/datewarden/XmlSchemaType$6") :
    MetFree l (⟨"com/example/datewarden/datewarden/XmlSchemaType", "takesDurations", "()Z"⟩ : MethodName) (head1 (Jvm.Cond.code (⟨"com/example/datewarden/datewarden/XmlSchemaType", "takesDurations", "()Z"⟩ : MethodName) prog_42_method_9_code 1 (some .boolean) :: ws) ({ frames := 0, cells := 0, slots := 0, locals := 0 } : Room)) (fun a U => a = #[(.ref a_G_YEAR)] ∧ Z.Warmed39 U.vm ∧ U.heap = h0) (fun _ _ _ _ _ => True) (fun _ U o U' => ∃ v L, o = .returned v ∧ QP (.int (1 : Int32)) h0 n0 v U'.heap L ∧ FrameEnd U o U' L ({ frames := 0, cells := 0, slots := 0, locals := 0 } : Room).cells ({ frames := 0, cells := 0, slots := 0, locals := 0 } : Room).slots) := by
  refine MetFree.of_bodySF (plainFor_of_name own_pn1) hisR ?_
  intro p e s m args below meth c s₁ Bd hml0 hP hK
  obtain ⟨rfl, hZ, hh⟩ := hP
  have hx := Bd.exec
  have hby := Bd.bytes
  have hml : c.maxLocals = 1 := hml0
  have hown : s.vm.findClass "com/example/datewarden/datewarden/XmlSchemaType" = some m.cls := findClass_of_methodNamed Bd.named
  have hnm := (name_of_methodNamed Bd.named Bd.method).1
  have X0 : Stand p l e ({ frames := 0, cells := 0, slots := 0, locals := 0 } : Room) s m #[(.ref a_G_YEAR)] below meth c s₁ [] 0 0 := Stand.of_body Bd
  have e0 : s₁.heap = h0 := by rw [← hh, Bd.state]; rfl
  have N0 := Fr.nil n0
  have pre0 : ∀ t, Steps p.tables e below (s₁.setTop (mkF m 0 #[.val (.ref a_G_YEAR)] [])) t → Steps p.tables e below (s₁.setTop (entryFrame m #[(.ref a_G_YEAR)] 1)) t := fun t k => castTop (own_ef_rm2_4 m a_G_YEAR) k
  obtain ⟨T1, X1, e1, st1⟩ := getS2 X0 hx hZ hown (host := "") (Or.inl (hw _ (List.mem_of_getElem? (i := 13) rfl))) Via.refl e0 S_DATE_TIME (g := (mkF m 1 #[.val (.ref a_G_YEAR)] [(.ref a_G_YEAR)])) rfl (hb hby own_d_prog_42_method_9_code_1)
  obtain ⟨T2, X2, e2, st2⟩ := getS2 X1 hx hZ hown (host := "") (Or.inl (hw _ (List.mem_of_getElem? (i := 17) rfl))) Via.refl e1 S_DATE (g := (mkF m 8 #[.val (.ref a_G_YEAR)] [(.ref a_G_YEAR)])) rfl (hb hby own_d_prog_42_method_9_code_8)
  obtain ⟨T3, X3, e3, st3⟩ := getS2 X2 hx hZ hown (host := "") (Or.inl (hw _ (List.mem_of_getElem? (i := 19) rfl))) Via.refl e2 S_G_YEAR_MONTH (g := (mkF m 15 #[.val (.ref a_G_YEAR)] [(.ref a_G_YEAR)])) rfl (hb hby own_d_prog_42_method_9_code_15)
  obtain ⟨T4, X4, e4, st4⟩ := getS2 X3 hx hZ hown (host := "") (Or.inl (hw _ (List.mem_of_getElem? (i := 23) rfl))) Via.refl e3 S_G_YEAR (g := (mkF m 22 #[.val (.ref a_G_YEAR)] [(.ref a_G_YEAR)])) rfl (hb hby own_d_prog_42_method_9_code_22)
  have pre5 : ∀ t, Steps p.tables e below (T4.setTop (mkF m 33 #[.val (.ref a_G_YEAR)] [(.int (1 : Int32))])) t → Steps p.tables e below (s₁.setTop (entryFrame m #[(.ref a_G_YEAR)] 1)) t := fun t k => pre0 t (by
    show Steps p.tables e below (s₁.setTop (mkF m 0 #[.val (.ref a_G_YEAR)] [])) _
    refine XS.aloadN X0.here hx rfl (hb hby own_d_prog_42_method_9_code_0) rfl rfl ?_
    show Steps p.tables e below (s₁.setTop (mkF m 1 #[.val (.ref a_G_YEAR)] [(.ref a_G_YEAR)])) _
    refine st1 _ ?_
    show Steps p.tables e below (T1.setTop (mkF m 4 #[.val (.ref a_G_YEAR)] [(.ref a_DATE_TIME), (.ref a_G_YEAR)])) _
    refine Jvm.RoadKit.acmp (g := (mkF m 4 #[.val (.ref a_G_YEAR)] [(.ref a_DATE_TIME), (.ref a_G_YEAR)])) X1 hx rfl rfl rfl (pc0 := 4) (pc' := 7) (same := false) rfl (hb hby own_d_prog_42_method_9_code_4) rfl (decide_eq_false fun q => ((ne_exa E_G_YEAR E_DATE_TIME (by decide)) : ¬ (a_G_YEAR = a_DATE_TIME)) (Value.ref.inj q)) (by decide) (by decide) ?_
    show Steps p.tables e below (T1.setTop (mkF m 7 #[.val (.ref a_G_YEAR)] [])) _
    refine XS.aloadN X1.here hx rfl (hb hby own_d_prog_42_method_9_code_7) rfl rfl ?_
    show Steps p.tables e below (T1.setTop (mkF m 8 #[.val (.ref a_G_YEAR)] [(.ref a_G_YEAR)])) _
    refine st2 _ ?_
    show Steps p.tables e below (T2.setTop (mkF m 11 #[.val (.ref a_G_YEAR)] [(.ref a_DATE), (.ref a_G_YEAR)])) _
    refine Jvm.RoadKit.acmp (g := (mkF m 11 #[.val (.ref a_G_YEAR)] [(.ref a_DATE), (.ref a_G_YEAR)])) X2 hx rfl rfl rfl (pc0 := 11) (pc' := 14) (same := false) rfl (hb hby own_d_prog_42_method_9_code_11) rfl (decide_eq_false fun q => ((ne_exa E_G_YEAR E_DATE (by decide)) : ¬ (a_G_YEAR = a_DATE)) (Value.ref.inj q)) (by decide) (by decide) ?_
    show Steps p.tables e below (T2.setTop (mkF m 14 #[.val (.ref a_G_YEAR)] [])) _
    refine XS.aloadN X2.here hx rfl (hb hby own_d_prog_42_method_9_code_14) rfl rfl ?_
    show Steps p.tables e below (T2.setTop (mkF m 15 #[.val (.ref a_G_YEAR)] [(.ref a_G_YEAR)])) _
    refine st3 _ ?_
    show Steps p.tables e below (T3.setTop (mkF m 18 #[.val (.ref a_G_YEAR)] [(.ref a_G_YEAR_MONTH), (.ref a_G_YEAR)])) _
    refine Jvm.RoadKit.acmp (g := (mkF m 18 #[.val (.ref a_G_YEAR)] [(.ref a_G_YEAR_MONTH), (.ref a_G_YEAR)])) X3 hx rfl rfl rfl (pc0 := 18) (pc' := 21) (same := false) rfl (hb hby own_d_prog_42_method_9_code_18) rfl (decide_eq_false fun q => ((ne_exa E_G_YEAR E_G_YEAR_MONTH (by decide)) : ¬ (a_G_YEAR = a_G_YEAR_MONTH)) (Value.ref.inj q)) (by decide) (by decide) ?_
    show Steps p.tables e below (T3.setTop (mkF m 21 #[.val (.ref a_G_YEAR)] [])) _
    refine XS.aloadN X3.here hx rfl (hb hby own_d_prog_42_method_9_code_21) rfl rfl ?_
    show Steps p.tables e below (T3.setTop (mkF m 22 #[.val (.ref a_G_YEAR)] [(.ref a_G_YEAR)])) _
    refine st4 _ ?_
    show Steps p.tables e below (T4.setTop (mkF m 25 #[.val (.ref a_G_YEAR)] [(.ref a_G_YEAR), (.ref a_G_YEAR)])) _
    refine Jvm.RoadKit.acmp (g := (mkF m 25 #[.val (.ref a_G_YEAR)] [(.ref a_G_YEAR), (.ref a_G_YEAR)])) X4 hx rfl rfl rfl (pc0 := 25) (pc' := 28) (same := true) rfl (hb hby own_d_prog_42_method_9_code_25) rfl (decide_eq_true (rfl)) (by decide) (by decide) ?_
    show Steps p.tables e below (T4.setTop (mkF m 28 #[.val (.ref a_G_YEAR)] [])) _
    refine XS.iconst X4.here hx rfl (hb hby own_d_prog_42_method_9_code_28) ?_
    show Steps p.tables e below (T4.setTop (mkF m 29 #[.val (.ref a_G_YEAR)] [(.int (1 : Int32))])) _
    refine XS.goto X4.here hx rfl (pc0 := 29) (pc' := 33) rfl (hb hby own_d_prog_42_method_9_code_29) (by decide) (by decide) ?_
    exact k)
  obtain ⟨fs, hr, hrun, hended, hW, hsame⟩ := X4.leave (v := some (.int (nar .boolean (1 : Int32)))) (fun h => by rw [Bd.returns] at h; cases h)
  refine ⟨_, _, pre5 _ ?_, hrun, hended, _, _, rfl, ?_, ⟨_, rfl⟩, hW, hsame.mono (by decide) (by decide)⟩
  · show Steps p.tables e below (T4.setTop (mkF m 33 #[.val (.ref a_G_YEAR)] [(.int (1 : Int32))])) _
    exact retN X4 hx (t := .boolean) Bd.returns (by simp) (hb hby own_d_prog_42_method_9_code_33) hr
  · show QP (.int (1 : Int32)) h0 n0 _ T4.heap _
    rw [e4]
    exact ⟨rfl, N0, rfl⟩
theorem own_ef_rm1_5 (m : MethodId) (y0 : Int32) : entryFrame m #[(.int y0)] 1 = mkF m 0 #[.val (.int y0)] [] := by first | (simp [entryFrame, mkF, argsToLocals, Value.category]; done) | rfl
set_option maxRecDepth 65536 in
set_option maxHeartbeats 40000000 in
theorem rm1_5 (l : Launch) (Z : State) (a0 : Array Value) (hw : ∀ d ∈ tables_1, d.before a0 Z = true) (ws : List Jvm.Cond) (a_DATE_TIME : Addr) (a_G_YEAR_MONTH : Addr) (a_DATE : Addr) (a_TIME : Addr) (a_G_YEAR : Addr) (a_G_MONTH : Addr) (a_DURATION : Addr) (a_G_DAY : Addr) (a_G_MONTH_DAY : Addr) (h0 : Heap) (n0 : Nat) (Z0 : n0 ≤ h0.size) (S_DATE_TIME : Sta Z h0 "com/example/datewarden/datewarden/XmlSchemaType" "DATE_TIME" "Lcom/example/datewarden/datewarden/XmlSchemaType;" (.ref a_DATE_TIME)) (E_DATE_TIME : Exa Z h0 a_DATE_TIME "com/example/datewarden/datewarden/XmlSchemaType$1") (S_G_YEAR_MONTH : Sta Z h0 "com/example/datewarden/datewarden/XmlSchemaType" "G_YEAR_MONTH" "Lcom/example/datewarden/datewarden/XmlSchemaType;" (.ref a_G_YEAR_MONTH)) (E_G_YEAR_MONTH : Exa Z h0 a_G_YEAR_MONTH "com/example/datewarden/datewarden/XmlSchemaType$4") (S_DATE : Sta Z h0 "com/example/datewarden/datewarden/XmlSchemaType" "DATE" "Lcom/example/datewarden/datewarden/XmlSchemaType;" (.ref a_DATE)) (E_DATE : Exa Z h0 a_DATE "com/example/datewarden/datewarden/XmlSchemaType$2") (S_TIME : Sta Z h0 "com/example/datewarden/datewarden/XmlSchemaType" "TIME" "Lcom/example/datewarden/datewarden/XmlSchemaType;" (.ref a_TIME)) (E_TIME : Exa Z h0 a_TIME "com/example/datewarden/datewarden/XmlSchemaType$3") (S_G_YEAR : Sta Z h0 "com/example/datewarden/datewarden/XmlSchemaType" "G_YEAR" "Lcom/example/datewarden/datewarden/XmlSchemaType;" (.ref a_G_YEAR)) (E_G_YEAR : Exa Z h0 a_G_YEAR "com/example/datewarden/datewarden/XmlSchemaType$5") (S_G_MONTH : Sta Z h0 "com/example/datewarden/datewarden/XmlSchemaType" "G_MONTH" "Lcom/example/datewarden/datewarden/XmlSchemaType;" (.ref a_G_MONTH)) (E_G_MONTH : Exa Z h0 a_G_MONTH "com/example/datewarden/datewarden/XmlSchemaType$8") (S_DURATION : Sta Z h0 "com/example/datewarden/datewarden/XmlSchemaType" "DURATION" "Lcom/example/datewarden/datewarden/XmlSchemaType;" (.ref a_DURATION)) (E_DURATION : Exa Z h0 a_DURATION "com/example/datewarden/datewarden/XmlSchemaType$9") (S_G_DAY : Sta Z h0 "com/example/datewarden/datewarden/XmlSchemaType" "G_DAY" "Lcom/example/datewarden/datewarden/XmlSchemaType;" (.ref a_G_DAY)) (E_G_DAY : Exa Z h0 a_G_DAY "com/example/datewarden/datewarden/XmlSchemaType$7") (S_G_MONTH_DAY : Sta Z h0 "com/example/datewarden/datewarden/XmlSchemaType" "G_MONTH_DAY" "Lcom/example/datewarden/datewarden/XmlSchemaType;" (.ref a_G_MONTH_DAY)) (E_G_MONTH_DAY : Exa Z h0 a_G_MONTH_DAY "com/example/datewarden/datewarden/XmlSchemaType$6") :
    MetFree l (⟨"com/example/datewarden/datewarden/XmlSchemaTypeTakesDurationsPinLaw", "pick", "(I)Lcom/example/datewarden/datewarden/XmlSchemaType;"⟩ : MethodName) (head1 (Jvm.Cond.code (⟨"com/example/datewarden/datewarden/XmlSchemaTypeTakesDurationsPinLaw", "pick", "(I)Lcom/example/datewarden/datewarden/XmlSchemaType;"⟩ : MethodName) method_3_code 1 (some (.object "com/example/datewarden/datewarden/XmlSchemaType")) :: ws) ({ frames := 0, cells := 0, slots := 0, locals := 0 } : Room)) (fun a U => a = #[(.int (5 : Int32))] ∧ Z.Warmed39 U.vm ∧ U.heap = h0) (fun _ _ _ _ _ => True) (fun _ U o U' => ∃ v L, o = .returned v ∧ QP (.ref a_G_MONTH_DAY) h0 n0 v U'.heap L ∧ FrameEnd U o U' L ({ frames := 0, cells := 0, slots := 0, locals := 0 } : Room).cells ({ frames := 0, cells := 0, slots := 0, locals := 0 } : Room).slots) := by
  refine MetFree.of_bodySF (plainFor_of_name own_pn0) hisR ?_
  intro p e s m args below meth c s₁ Bd hml0 hP hK
  obtain ⟨rfl, hZ, hh⟩ := hP
  have hx := Bd.exec
  have hby := Bd.bytes
  have hml : c.maxLocals = 1 := hml0
  have hown : s.vm.findClass "com/example/datewarden/datewarden/XmlSchemaTypeTakesDurationsPinLaw" = some m.cls := findClass_of_methodNamed Bd.named
  have hnm := (name_of_methodNamed Bd.named Bd.method).1
  have X0 : Stand p l e ({ frames := 0, cells := 0, slots := 0, locals := 0 } : Room) s m #[(.int (5 : Int32))] below meth c s₁ [] 0 0 := Stand.of_body Bd
  have e0 : s₁.heap = h0 := by rw [← hh, Bd.state]; rfl
  have N0 := Fr.nil n0
  have pre0 : ∀ t, Steps p.tables e below (s₁.setTop (mkF m 0 #[.val (.int (5 : Int32))] [])) t → Steps p.tables e below (s₁.setTop (entryFrame m #[(.int (5 : Int32))] 1)) t := fun t k => castTop (own_ef_rm1_5 m (5 : Int32)) k
  obtain ⟨T1, X1, e1, st1⟩ := getS2 X0 hx hZ hown (host := "") (Or.inl (hw _ (List.mem_of_getElem? (i := 38) rfl))) Via.refl e0 S_G_MONTH_DAY (g := (mkF m 49 #[.val (.int (5 : Int32))] [])) rfl (hb hby own_d_method_3_code_49)
  have pre2 : ∀ t, Steps p.tables e below (T1.setTop (mkF m 52 #[.val (.int (5 : Int32))] [(.ref a_G_MONTH_DAY)])) t → Steps p.tables e below (s₁.setTop (entryFrame m #[(.int (5 : Int32))] 1)) t := fun t k => pre0 t (by
    show Steps p.tables e below (s₁.setTop (mkF m 0 #[.val (.int (5 : Int32))] [])) _
    refine XS.iloadN X0.here hx rfl (hb hby own_d_method_3_code_0) rfl ?_
    show Steps p.tables e below (s₁.setTop (mkF m 1 #[.val (.int (5 : Int32))] [(.int (5 : Int32))])) _
    refine XS.ifYes X0.here hx rfl (pc0 := 1) (pc' := 8) rfl (hb hby own_d_method_3_code_1) rfl ((if0 _ _).trans (feq ((by decide) : ¬ ((5 : Int32) = (0 : Int32)))).2) (by decide) (by decide) ?_
    show Steps p.tables e below (s₁.setTop (mkF m 8 #[.val (.int (5 : Int32))] [])) _
    refine XS.iloadN X0.here hx rfl (hb hby own_d_method_3_code_8) rfl ?_
    show Steps p.tables e below (s₁.setTop (mkF m 9 #[.val (.int (5 : Int32))] [(.int (5 : Int32))])) _
    refine XS.iconst X0.here hx rfl (hb hby own_d_method_3_code_9) ?_
    show Steps p.tables e below (s₁.setTop (mkF m 10 #[.val (.int (5 : Int32))] [(.int (1 : Int32)), (.int (5 : Int32))])) _
    refine XS.icmpYes X0.here hx rfl (pc0 := 10) (pc' := 17) rfl (hb hby own_d_method_3_code_10) rfl (feq ((by decide) : ¬ ((5 : Int32) = (1 : Int32)))).2 (by decide) (by decide) ?_
    show Steps p.tables e below (s₁.setTop (mkF m 17 #[.val (.int (5 : Int32))] [])) _
    refine XS.iloadN X0.here hx rfl (hb hby own_d_method_3_code_17) rfl ?_
    show Steps p.tables e below (s₁.setTop (mkF m 18 #[.val (.int (5 : Int32))] [(.int (5 : Int32))])) _
    refine XS.iconst X0.here hx rfl (hb hby own_d_method_3_code_18) ?_
    show Steps p.tables e below (s₁.setTop (mkF m 19 #[.val (.int (5 : Int32))] [(.int (2 : Int32)), (.int (5 : Int32))])) _
    refine XS.icmpYes X0.here hx rfl (pc0 := 19) (pc' := 26) rfl (hb hby own_d_method_3_code_19) rfl (feq ((by decide) : ¬ ((5 : Int32) = (2 : Int32)))).2 (by decide) (by decide) ?_
    show Steps p.tables e below (s₁.setTop (mkF m 26 #[.val (.int (5 : Int32))] [])) _
    refine XS.iloadN X0.here hx rfl (hb hby own_d_method_3_code_26) rfl ?_
    show Steps p.tables e below (s₁.setTop (mkF m 27 #[.val (.int (5 : Int32))] [(.int (5 : Int32))])) _
    refine XS.iconst X0.here hx rfl (hb hby own_d_method_3_code_27) ?_
    show Steps p.tables e below (s₁.setTop (mkF m 28 #[.val (.int (5 : Int32))] [(.int (3 : Int32)), (.int (5 : Int32))])) _
    refine XS.icmpYes X0.here hx rfl (pc0 := 28) (pc' := 35) rfl (hb hby own_d_method_3_code_28) rfl (feq ((by decide) : ¬ ((5 : Int32) = (3 : Int32)))).2 (by decide) (by decide) ?_
    show Steps p.tables e below (s₁.setTop (mkF m 35 #[.val (.int (5 : Int32))] [])) _
    refine XS.iloadN X0.here hx rfl (hb hby own_d_method_3_code_35) rfl ?_
    show Steps p.tables e below (s₁.setTop (mkF m 36 #[.val (.int (5 : Int32))] [(.int (5 : Int32))])) _
    refine XS.iconst X0.here hx rfl (hb hby own_d_method_3_code_36) ?_
    show Steps p.tables e below (s₁.setTop (mkF m 37 #[.val (.int (5 : Int32))] [(.int (4 : Int32)), (.int (5 : Int32))])) _
    refine XS.icmpYes X0.here hx rfl (pc0 := 37) (pc' := 44) rfl (hb hby own_d_method_3_code_37) rfl (feq ((by decide) : ¬ ((5 : Int32) = (4 : Int32)))).2 (by decide) (by decide) ?_
    show Steps p.tables e below (s₁.setTop (mkF m 44 #[.val (.int (5 : Int32))] [])) _
    refine XS.iloadN X0.here hx rfl (hb hby own_d_method_3_code_44) rfl ?_
    show Steps p.tables e below (s₁.setTop (mkF m 45 #[.val (.int (5 : Int32))] [(.int (5 : Int32))])) _
    refine XS.iconst X0.here hx rfl (hb hby own_d_method_3_code_45) ?_
    show Steps p.tables e below (s₁.setTop (mkF m 46 #[.val (.int (5 : Int32))] [(.int (5 : Int32)), (.int (5 : Int32))])) _
    refine XS.icmpNo X0.here hx rfl (hb hby own_d_method_3_code_46) rfl (teq ((by decide) : (5 : Int32) = (5 : Int32))).2 ?_
    show Steps p.tables e below (s₁.setTop (mkF m 49 #[.val (.int (5 : Int32))] [])) _
    refine st1 _ ?_
    exact k)
  obtain ⟨fs, hr, hrun, hended, hW, hsame⟩ := X1.leave (v := some (.ref a_G_MONTH_DAY)) (fun h => by rw [Bd.returns] at h; cases h)
  refine ⟨_, _, pre2 _ ?_, hrun, hended, _, _, rfl, ?_, ⟨_, rfl⟩, hW, hsame.mono (by decide) (by decide)⟩
  · show Steps p.tables e below (T1.setTop (mkF m 52 #[.val (.int (5 : Int32))] [(.ref a_G_MONTH_DAY)])) _
    exact retOut X1 hx (t := (.object "com/example/datewarden/datewarden/XmlSchemaType")) (i := .areturn) Bd.returns rfl (Or.inr (Or.inr (Or.inr (Or.inr ⟨rfl, rfl, rfl⟩)))) (hb hby own_d_method_3_code_52) hr
  · show QP (.ref a_G_MONTH_DAY) h0 n0 _ T1.heap _
    rw [e1]
    exact ⟨rfl, N0, rfl⟩
theorem own_ef_rm2_5 (m : MethodId) (y0 : Addr) : entryFrame m #[(.ref y0)] 1 = mkF m 0 #[.val (.ref y0)] [] := by first | (simp [entryFrame, mkF, argsToLocals, Value.category]; done) | rfl
set_option maxRecDepth 65536 in
set_option maxHeartbeats 40000000 in
theorem rm2_5 (l : Launch) (Z : State) (a0 : Array Value) (hw : ∀ d ∈ tables_1, d.before a0 Z = true) (ws : List Jvm.Cond) (a_DATE_TIME : Addr) (a_G_YEAR_MONTH : Addr) (a_DATE : Addr) (a_TIME : Addr) (a_G_YEAR : Addr) (a_G_MONTH : Addr) (a_DURATION : Addr) (a_G_DAY : Addr) (a_G_MONTH_DAY : Addr) (h0 : Heap) (n0 : Nat) (Z0 : n0 ≤ h0.size) (S_DATE_TIME : Sta Z h0 "com/example/datewarden/datewarden/XmlSchemaType" "DATE_TIME" "Lcom/example/datewarden/datewarden/XmlSchemaType;" (.ref a_DATE_TIME)) (E_DATE_TIME : Exa Z h0 a_DATE_TIME "com/example/datewarden/datewarden/XmlSchemaType$1") (S_G_YEAR_MONTH : Sta Z h0 "com/example/datewarden/datewarden/XmlSchemaType" "G_YEAR_MONTH" "Lcom/example/datewarden/datewarden/XmlSchemaType;" (.ref a_G_YEAR_MONTH)) (E_G_YEAR_MONTH : Exa Z h0 a_G_YEAR_MONTH "com/example/datewarden/datewarden/XmlSchemaType$4") (S_DATE : Sta Z h0 "com/example/datewarden/datewarden/XmlSchemaType" "DATE" "Lcom/example/datewarden/datewarden/XmlSchemaType;" (.ref a_DATE)) (E_DATE : Exa Z h0 a_DATE "com/example/datewarden/datewarden/XmlSchemaType$2") (S_TIME : Sta Z h0 "com/example/datewarden/datewarden/XmlSchemaType" "TIME" "Lcom/example/datewarden/datewarden/XmlSchemaType;" (.ref a_TIME)) (E_TIME : Exa Z h0 a_TIME "com/example/datewarden/datewarden/XmlSchemaType$3") (S_G_YEAR : Sta Z h0 "com/example/datewarden/datewarden/XmlSchemaType" "G_YEAR" "Lcom/example/datewarden/datewarden/XmlSchemaType;" (.ref a_G_YEAR)) (E_G_YEAR : Exa Z h0 a_G_YEAR "com/example/datewarden/datewarden/XmlSchemaType$5") (S_G_MONTH : Sta Z h0 "com/example/datewarden/datewarden/XmlSchemaType" "G_MONTH" "Lcom/example/datewarden/datewarden/XmlSchemaType;" (.ref a_G_MONTH)) (E_G_MONTH : Exa Z h0 a_G_MONTH "com/example/datewarden/datewarden/XmlSchemaType$8") (S_DURATION : Sta Z h0 "com/example/datewarden/datewarden/XmlSchemaType" "DURATION" "Lcom/example/datewarden/datewarden/XmlSchemaType;" (.ref a_DURATION)) (E_DURATION : Exa Z h0 a_DURATION "com/example/datewarden/datewarden/XmlSchemaType$9") (S_G_DAY : Sta Z h0 "com/example/datewarden/datewarden/XmlSchemaType" "G_DAY" "Lcom/example/datewarden/datewarden/XmlSchemaType;" (.ref a_G_DAY)) (E_G_DAY : Exa Z h0 a_G_DAY "com/example/datewarden/datewarden/XmlSchemaType$7") (S_G_MONTH_DAY : Sta Z h0 "com/example/datewarden/datewarden/XmlSchemaType" "G_MONTH_DAY" "Lcom/example/datewarden/datewarden/XmlSchemaType;" (.ref a_G_MONTH_DAY)) (E_G_MONTH_DAY : Exa Z h0 a_G_MONTH_DAY "com/example/datewarden/datewarden/XmlSchemaType$6") :
    MetFree l (⟨"com/example/datewarden/datewarden/XmlSchemaType", "takesDurations", "()Z"⟩ : MethodName) (head1 (Jvm.Cond.code (⟨"com/example/datewarden/datewarden/XmlSchemaType", "takesDurations", "()Z"⟩ : MethodName) prog_42_method_9_code 1 (some .boolean) :: ws) ({ frames := 0, cells := 0, slots := 0, locals := 0 } : Room)) (fun a U => a = #[(.ref a_G_MONTH_DAY)] ∧ Z.Warmed39 U.vm ∧ U.heap = h0) (fun _ _ _ _ _ => True) (fun _ U o U' => ∃ v L, o = .returned v ∧ QP (.int (0 : Int32)) h0 n0 v U'.heap L ∧ FrameEnd U o U' L ({ frames := 0, cells := 0, slots := 0, locals := 0 } : Room).cells ({ frames := 0, cells := 0, slots := 0, locals := 0 } : Room).slots) := by
  refine MetFree.of_bodySF (plainFor_of_name own_pn1) hisR ?_
  intro p e s m args below meth c s₁ Bd hml0 hP hK
  obtain ⟨rfl, hZ, hh⟩ := hP
  have hx := Bd.exec
  have hby := Bd.bytes
  have hml : c.maxLocals = 1 := hml0
  have hown : s.vm.findClass "com/example/datewarden/datewarden/XmlSchemaType" = some m.cls := findClass_of_methodNamed Bd.named
  have hnm := (name_of_methodNamed Bd.named Bd.method).1
  have X0 : Stand p l e ({ frames := 0, cells := 0, slots := 0, locals := 0 } : Room) s m #[(.ref a_G_MONTH_DAY)] below meth c s₁ [] 0 0 := Stand.of_body Bd
  have e0 : s₁.heap = h0 := by rw [← hh, Bd.state]; rfl
  have N0 := Fr.nil n0
  have pre0 : ∀ t, Steps p.tables e below (s₁.setTop (mkF m 0 #[.val (.ref a_G_MONTH_DAY)] [])) t → Steps p.tables e below (s₁.setTop (entryFrame m #[(.ref a_G_MONTH_DAY)] 1)) t := fun t k => castTop (own_ef_rm2_5 m a_G_MONTH_DAY) k
  obtain ⟨T1, X1, e1, st1⟩ := getS2 X0 hx hZ hown (host := "") (Or.inl (hw _ (List.mem_of_getElem? (i := 13) rfl))) Via.refl e0 S_DATE_TIME (g := (mkF m 1 #[.val (.ref a_G_MONTH_DAY)] [(.ref a_G_MONTH_DAY)])) rfl (hb hby own_d_prog_42_method_9_code_1)
  obtain ⟨T2, X2, e2, st2⟩ := getS2 X1 hx hZ hown (host := "") (Or.inl (hw _ (List.mem_of_getElem? (i := 17) rfl))) Via.refl e1 S_DATE (g := (mkF m 8 #[.val (.ref a_G_MONTH_DAY)] [(.ref a_G_MONTH_DAY)])) rfl (hb hby own_d_prog_42_method_9_code_8)
  obtain ⟨T3, X3, e3, st3⟩ := getS2 X2 hx hZ hown (host := "") (Or.inl (hw _ (List.mem_of_getElem? (i := 19) rfl))) Via.refl e2 S_G_YEAR_MONTH (g := (mkF m 15 #[.val (.ref a_G_MONTH_DAY)] [(.ref a_G_MONTH_DAY)])) rfl (hb hby own_d_prog_42_method_9_code_15)
  obtain ⟨T4, X4, e4, st4⟩ := getS2 X3 hx hZ hown (host := "") (Or.inl (hw _ (List.mem_of_getElem? (i := 23) rfl))) Via.refl e3 S_G_YEAR (g := (mkF m 22 #[.val (.ref a_G_MONTH_DAY)] [(.ref a_G_MONTH_DAY)])) rfl (hb hby own_d_prog_42_method_9_code_22)
  have pre5 : ∀ t, Steps p.tables e below (T4.setTop (mkF m 33 #[.val (.ref a_G_MONTH_DAY)] [(.int (0 : Int32))])) t → Steps p.tables e below (s₁.setTop (entryFrame m #[(.ref a_G_MONTH_DAY)] 1)) t := fun t k => pre0 t (by
    show Steps p.tables e below (s₁.setTop (mkF m 0 #[.val (.ref a_G_MONTH_DAY)] [])) _
    refine XS.aloadN X0.here hx rfl (hb hby own_d_prog_42_method_9_code_0) rfl rfl ?_
    show Steps p.tables e below (s₁.setTop (mkF m 1 #[.val (.ref a_G_MONTH_DAY)] [(.ref a_G_MONTH_DAY)])) _
    refine st1 _ ?_
    show Steps p.tables e below (T1.setTop (mkF m 4 #[.val (.ref a_G_MONTH_DAY)] [(.ref a_DATE_TIME), (.ref a_G_MONTH_DAY)])) _
    refine Jvm.RoadKit.acmp (g := (mkF m 4 #[.val (.ref a_G_MONTH_DAY)] [(.ref a_DATE_TIME), (.ref a_G_MONTH_DAY)])) X1 hx rfl rfl rfl (pc0 := 4) (pc' := 7) (same := false) rfl (hb hby own_d_prog_42_method_9_code_4) rfl (decide_eq_false fun q => ((ne_exa E_G_MONTH_DAY E_DATE_TIME (by decide)) : ¬ (a_G_MONTH_DAY = a_DATE_TIME)) (Value.ref.inj q)) (by decide) (by decide) ?_
    show Steps p.tables e below (T1.setTop (mkF m 7 #[.val (.ref a_G_MONTH_DAY)] [])) _
    refine XS.aloadN X1.here hx rfl (hb hby own_d_prog_42_method_9_code_7) rfl rfl ?_
    show Steps p.tables e below (T1.setTop (mkF m 8 #[.val (.ref a_G_MONTH_DAY)] [(.ref a_G_MONTH_DAY)])) _
    refine st2 _ ?_
    show Steps p.tables e below (T2.setTop (mkF m 11 #[.val (.ref a_G_MONTH_DAY)] [(.ref a_DATE), (.ref a_G_MONTH_DAY)])) _
    refine Jvm.RoadKit.acmp (g := (mkF m 11 #[.val (.ref a_G_MONTH_DAY)] [(.ref a_DATE), (.ref a_G_MONTH_DAY)])) X2 hx rfl rfl rfl (pc0 := 11) (pc' := 14) (same := false) rfl (hb hby own_d_prog_42_method_9_code_11) rfl (decide_eq_false fun q => ((ne_exa E_G_MONTH_DAY E_DATE (by decide)) : ¬ (a_G_MONTH_DAY = a_DATE)) (Value.ref.inj q)) (by decide) (by decide) ?_
    show Steps p.tables e below (T2.setTop (mkF m 14 #[.val (.ref a_G_MONTH_DAY)] [])) _
    refine XS.aloadN X2.here hx rfl (hb hby own_d_prog_42_method_9_code_14) rfl rfl ?_
    show Steps p.tables e below (T2.setTop (mkF m 15 #[.val (.ref a_G_MONTH_DAY)] [(.ref a_G_MONTH_DAY)])) _
    refine st3 _ ?_
    show Steps p.tables e below (T3.setTop (mkF m 18 #[.val (.ref a_G_MONTH_DAY)] [(.ref a_G_YEAR_MONTH), (.ref a_G_MONTH_DAY)])) _
    refine Jvm.RoadKit.acmp (g := (mkF m 18 #[.val (.ref a_G_MONTH_DAY)] [(.ref a_G_YEAR_MONTH), (.ref a_G_MONTH_DAY)])) X3 hx rfl rfl rfl (pc0 := 18) (pc' := 21) (same := false) rfl (hb hby own_d_prog_42_method_9_code_18) rfl (decide_eq_false fun q => ((ne_exa E_G_MONTH_DAY E_G_YEAR_MONTH (by decide)) : ¬ (a_G_MONTH_DAY = a_G_YEAR_MONTH)) (Value.ref.inj q)) (by decide) (by decide) ?_
    show Steps p.tables e below (T3.setTop (mkF m 21 #[.val (.ref a_G_MONTH_DAY)] [])) _
    refine XS.aloadN X3.here hx rfl (hb hby own_d_prog_42_method_9_code_21) rfl rfl ?_
    show Steps p.tables e below (T3.setTop (mkF m 22 #[.val (.ref a_G_MONTH_DAY)] [(.ref a_G_MONTH_DAY)])) _
    refine st4 _ ?_
    show Steps p.tables e below (T4.setTop (mkF m 25 #[.val (.ref a_G_MONTH_DAY)] [(.ref a_G_YEAR), (.ref a_G_MONTH_DAY)])) _
    refine Jvm.RoadKit.acmp (g := (mkF m 25 #[.val (.ref a_G_MONTH_DAY)] [(.ref a_G_YEAR), (.ref a_G_MONTH_DAY)])) X4 hx rfl rfl rfl (pc0 := 25) (pc' := 32) (same := false) rfl (hb hby own_d_prog_42_method_9_code_25) rfl (decide_eq_false fun q => ((ne_exa E_G_MONTH_DAY E_G_YEAR (by decide)) : ¬ (a_G_MONTH_DAY = a_G_YEAR)) (Value.ref.inj q)) (by decide) (by decide) ?_
    show Steps p.tables e below (T4.setTop (mkF m 32 #[.val (.ref a_G_MONTH_DAY)] [])) _
    refine XS.iconst X4.here hx rfl (hb hby own_d_prog_42_method_9_code_32) ?_
    exact k)
  obtain ⟨fs, hr, hrun, hended, hW, hsame⟩ := X4.leave (v := some (.int (nar .boolean (0 : Int32)))) (fun h => by rw [Bd.returns] at h; cases h)
  refine ⟨_, _, pre5 _ ?_, hrun, hended, _, _, rfl, ?_, ⟨_, rfl⟩, hW, hsame.mono (by decide) (by decide)⟩
  · show Steps p.tables e below (T4.setTop (mkF m 33 #[.val (.ref a_G_MONTH_DAY)] [(.int (0 : Int32))])) _
    exact retN X4 hx (t := .boolean) Bd.returns (by simp) (hb hby own_d_prog_42_method_9_code_33) hr
  · show QP (.int (0 : Int32)) h0 n0 _ T4.heap _
    rw [e4]
    exact ⟨rfl, N0, rfl⟩
theorem own_ef_rm1_6 (m : MethodId) (y0 : Int32) : entryFrame m #[(.int y0)] 1 = mkF m 0 #[.val (.int y0)] [] := by first | (simp [entryFrame, mkF, argsToLocals, Value.category]; done) | rfl
set_option maxRecDepth 65536 in
set_option maxHeartbeats 40000000 in
theorem rm1_6 (l : Launch) (Z : State) (a0 : Array Value) (hw : ∀ d ∈ tables_1, d.before a0 Z = true) (ws : List Jvm.Cond) (a_DATE_TIME : Addr) (a_G_YEAR_MONTH : Addr) (a_DATE : Addr) (a_TIME : Addr) (a_G_YEAR : Addr) (a_G_MONTH : Addr) (a_DURATION : Addr) (a_G_DAY : Addr) (a_G_MONTH_DAY : Addr) (h0 : Heap) (n0 : Nat) (Z0 : n0 ≤ h0.size) (S_DATE_TIME : Sta Z h0 "com/example/datewarden/datewarden/XmlSchemaType" "DATE_TIME" "Lcom/example/datewarden/datewarden/XmlSchemaType;" (.ref a_DATE_TIME)) (E_DATE_TIME : Exa Z h0 a_DATE_TIME "com/example/datewarden/datewarden/XmlSchemaType$1") (S_G_YEAR_MONTH : Sta Z h0 "com/example/datewarden/datewarden/XmlSchemaType" "G_YEAR_MONTH" "Lcom/example/datewarden/datewarden/XmlSchemaType;" (.ref a_G_YEAR_MONTH)) (E_G_YEAR_MONTH : Exa Z h0 a_G_YEAR_MONTH "com/example/datewarden/datewarden/XmlSchemaType$4") (S_DATE : Sta Z h0 "com/example/datewarden/datewarden/XmlSchemaType" "DATE" "Lcom/example/datewarden/datewarden/XmlSchemaType;" (.ref a_DATE)) (E_DATE : Exa Z h0 a_DATE "com/example/datewarden/datewarden/XmlSchemaType$2") (S_TIME : Sta Z h0 "com/example/datewarden/datewarden/XmlSchemaType" "TIME" "Lcom/example/datewarden/datewarden/XmlSchemaType;" (.ref a_TIME)) (E_TIME : Exa Z h0 a_TIME "com/example/datewarden/datewarden/XmlSchemaType$3") (S_G_YEAR : Sta Z h0 "com/example/datewarden/datewarden/XmlSchemaType" "G_YEAR" "Lcom/example/datewarden/datewarden/XmlSchemaType;" (.ref a_G_YEAR)) (E_G_YEAR : Exa Z h0 a_G_YEAR "com/example/datewarden/datewarden/XmlSchemaType$5") (S_G_MONTH : Sta Z h0 "com/example/datewarden/datewarden/XmlSchemaType" "G_MONTH" "Lcom/example/datewarden/datewarden/XmlSchemaType;" (.ref a_G_MONTH)) (E_G_MONTH : Exa Z h0 a_G_MONTH "com/example/datewarden/datewarden/XmlSchemaType$8") (S_DURATION : Sta Z h0 "com/example/datewarden/datewarden/XmlSchemaType" "DURATION" "Lcom/example/datewarden/datewarden/XmlSchemaType;" (.ref a_DURATION)) (E_DURATION : Exa Z h0 a_DURATION "com/example/datewarden/datewarden/XmlSchemaType$9") (S_G_DAY : Sta Z h0 "com/example/datewarden/datewarden/XmlSchemaType" "G_DAY" "Lcom/example/datewarden/datewarden/XmlSchemaType;" (.ref a_G_DAY)) (E_G_DAY : Exa Z h0 a_G_DAY "com/example/datewarden/datewarden/XmlSchemaType$7") (S_G_MONTH_DAY : Sta Z h0 "com/example/datewarden/datewarden/XmlSchemaType" "G_MONTH_DAY" "Lcom/example/datewarden/datewarden/XmlSchemaType;" (.ref a_G_MONTH_DAY)) (E_G_MONTH_DAY : Exa Z h0 a_G_MONTH_DAY "com/example/datewarden/datewarden/XmlSchemaType$6") :
    MetFree l (⟨"com/example/datewarden/datewarden/XmlSchemaTypeTakesDurationsPinLaw", "pick", "(I)Lcom/example/datewarden/datewarden/XmlSchemaType;"⟩ : MethodName) (head1 (Jvm.Cond.code (⟨"com/example/datewarden/datewarden/XmlSchemaTypeTakesDurationsPinLaw", "pick", "(I)Lcom/example/datewarden/datewarden/XmlSchemaType;"⟩ : MethodName) method_3_code 1 (some (.object "com/example/datewarden/datewarden/XmlSchemaType")) :: ws) ({ frames := 0, cells := 0, slots := 0, locals := 0 } : Room)) (fun a U => a = #[(.int (6 : Int32))] ∧ Z.Warmed39 U.vm ∧ U.heap = h0) (fun _ _ _ _ _ => True) (fun _ U o U' => ∃ v L, o = .returned v ∧ QP (.ref a_G_DAY) h0 n0 v U'.heap L ∧ FrameEnd U o U' L ({ frames := 0, cells := 0, slots := 0, locals := 0 } : Room).cells ({ frames := 0, cells := 0, slots := 0, locals := 0 } : Room).slots) := by
  refine MetFree.of_bodySF (plainFor_of_name own_pn0) hisR ?_
  intro p e s m args below meth c s₁ Bd hml0 hP hK
  obtain ⟨rfl, hZ, hh⟩ := hP
  have hx := Bd.exec
  have hby := Bd.bytes
  have hml : c.maxLocals = 1 := hml0
  have hown : s.vm.findClass "com/example/datewarden/datewarden/XmlSchemaTypeTakesDurationsPinLaw" = some m.cls := findClass_of_methodNamed Bd.named
  have hnm := (name_of_methodNamed Bd.named Bd.method).1
  have X0 : Stand p l e ({ frames := 0, cells := 0, slots := 0, locals := 0 } : Room) s m #[(.int (6 : Int32))] below meth c s₁ [] 0 0 := Stand.of_body Bd
  have e0 : s₁.heap = h0 := by rw [← hh, Bd.state]; rfl
  have N0 := Fr.nil n0
  have pre0 : ∀ t, Steps p.tables e below (s₁.setTop (mkF m 0 #[.val (.int (6 : Int32))] [])) t → Steps p.tables e below (s₁.setTop (entryFrame m #[(.int (6 : Int32))] 1)) t := fun t k => castTop (own_ef_rm1_6 m (6 : Int32)) k
  obtain ⟨T1, X1, e1, st1⟩ := getS2 X0 hx hZ hown (host := "") (Or.inl (hw _ (List.mem_of_getElem? (i := 35) rfl))) Via.refl e0 S_G_DAY (g := (mkF m 59 #[.val (.int (6 : Int32))] [])) rfl (hb hby own_d_method_3_code_59)
  have pre2 : ∀ t, Steps p.tables e below (T1.setTop (mkF m 62 #[.val (.int (6 : Int32))] [(.ref a_G_DAY)])) t → Steps p.tables e below (s₁.setTop (entryFrame m #[(.int (6 : Int32))] 1)) t := fun t k => pre0 t (by
    show Steps p.tables e below (s₁.setTop (mkF m 0 #[.val (.int (6 : Int32))] [])) _
    refine XS.iloadN X0.here hx rfl (hb hby own_d_method_3_code_0) rfl ?_
    show Steps p.tables e below (s₁.setTop (mkF m 1 #[.val (.int (6 : Int32))] [(.int (6 : Int32))])) _
    refine XS.ifYes X0.here hx rfl (pc0 := 1) (pc' := 8) rfl (hb hby own_d_method_3_code_1) rfl ((if0 _ _).trans (feq ((by decide) : ¬ ((6 : Int32) = (0 : Int32)))).2) (by decide) (by decide) ?_
    show Steps p.tables e below (s₁.setTop (mkF m 8 #[.val (.int (6 : Int32))] [])) _
    refine XS.iloadN X0.here hx rfl (hb hby own_d_method_3_code_8) rfl ?_
    show Steps p.tables e below (s₁.setTop (mkF m 9 #[.val (.int (6 : Int32))] [(.int (6 : Int32))])) _
    refine XS.iconst X0.here hx rfl (hb hby own_d_method_3_code_9) ?_
    show Steps p.tables e below (s₁.setTop (mkF m 10 #[.val (.int (6 : Int32))] [(.int (1 : Int32)), (.int (6 : Int32))])) _
    refine XS.icmpYes X0.here hx rfl (pc0 := 10) (pc' := 17) rfl (hb hby own_d_method_3_code_10) rfl (feq ((by decide) : ¬ ((6 : Int32) = (1 : Int32)))).2 (by decide) (by decide) ?_
    show Steps p.tables e below (s₁.setTop (mkF m 17 #[.val (.int (6 : Int32))] [])) _
    refine XS.iloadN X0.here hx rfl (hb hby own_d_method_3_code_17) rfl ?_
    show Steps p.tables e below (s₁.setTop (mkF m 18 #[.val (.int (6 : Int32))] [(.int (6 : Int32))])) _
    refine XS.iconst X0.here hx rfl (hb hby own_d_method_3_code_18) ?_
    show Steps p.tables e below (s₁.setTop (mkF m 19 #[.val (.int (6 : Int32))] [(.int (2 : Int32)), (.int (6 : Int32))])) _
    refine XS.icmpYes X0.here hx rfl (pc0 := 19) (pc' := 26) rfl (hb hby own_d_method_3_code_19) rfl (feq ((by decide) : ¬ ((6 : Int32) = (2 : Int32)))).2 (by decide) (by decide) ?_
    show Steps p.tables e below (s₁.setTop (mkF m 26 #[.val (.int (6 : Int32))] [])) _
    refine XS.iloadN X0.here hx rfl (hb hby own_d_method_3_code_26) rfl ?_
    show Steps p.tables e below (s₁.setTop (mkF m 27 #[.val (.int (6 : Int32))] [(.int (6 : Int32))])) _
    refine XS.iconst X0.here hx rfl (hb hby own_d_method_3_code_27) ?_
    show Steps p.tables e below (s₁.setTop (mkF m 28 #[.val (.int (6 : Int32))] [(.int (3 : Int32)), (.int (6 : Int32))])) _
    refine XS.icmpYes X0.here hx rfl (pc0 := 28) (pc' := 35) rfl (hb hby own_d_method_3_code_28) rfl (feq ((by decide) : ¬ ((6 : Int32) = (3 : Int32)))).2 (by decide) (by decide) ?_
    show Steps p.tables e below (s₁.setTop (mkF m 35 #[.val (.int (6 : Int32))] [])) _
    refine XS.iloadN X0.here hx rfl (hb hby own_d_method_3_code_35) rfl ?_
    show Steps p.tables e below (s₁.setTop (mkF m 36 #[.val (.int (6 : Int32))] [(.int (6 : Int32))])) _
    refine XS.iconst X0.here hx rfl (hb hby own_d_method_3_code_36) ?_
    show Steps p.tables e below (s₁.setTop (mkF m 37 #[.val (.int (6 : Int32))] [(.int (4 : Int32)), (.int (6 : Int32))])) _
    refine XS.icmpYes X0.here hx rfl (pc0 := 37) (pc' := 44) rfl (hb hby own_d_method_3_code_37) rfl (feq ((by decide) : ¬ ((6 : Int32) = (4 : Int32)))).2 (by decide) (by decide) ?_
    show Steps p.tables e below (s₁.setTop (mkF m 44 #[.val (.int (6 : Int32))] [])) _
    refine XS.iloadN X0.here hx rfl (hb hby own_d_method_3_code_44) rfl ?_
    show Steps p.tables e below (s₁.setTop (mkF m 45 #[.val (.int (6 : Int32))] [(.int (6 : Int32))])) _
    refine XS.iconst X0.here hx rfl (hb hby own_d_method_3_code_45) ?_
    show Steps p.tables e below (s₁.setTop (mkF m 46 #[.val (.int (6 : Int32))] [(.int (5 : Int32)), (.int (6 : Int32))])) _
    refine XS.icmpYes X0.here hx rfl (pc0 := 46) (pc' := 53) rfl (hb hby own_d_method_3_code_46) rfl (feq ((by decide) : ¬ ((6 : Int32) = (5 : Int32)))).2 (by decide) (by decide) ?_
    show Steps p.tables e below (s₁.setTop (mkF m 53 #[.val (.int (6 : Int32))] [])) _
    refine XS.iloadN X0.here hx rfl (hb hby own_d_method_3_code_53) rfl ?_
    show Steps p.tables e below (s₁.setTop (mkF m 54 #[.val (.int (6 : Int32))] [(.int (6 : Int32))])) _
    refine XS.bipush X0.here hx rfl (hb hby own_d_method_3_code_54) ?_
    show Steps p.tables e below (s₁.setTop (mkF m 56 #[.val (.int (6 : Int32))] [(.int (6 : Int32)), (.int (6 : Int32))])) _
    refine XS.icmpNo X0.here hx rfl (hb hby own_d_method_3_code_56) rfl (teq ((by decide) : (6 : Int32) = (6 : Int32))).2 ?_
    show Steps p.tables e below (s₁.setTop (mkF m 59 #[.val (.int (6 : Int32))] [])) _
    refine st1 _ ?_
    exact k)
  obtain ⟨fs, hr, hrun, hended, hW, hsame⟩ := X1.leave (v := some (.ref a_G_DAY)) (fun h => by rw [Bd.returns] at h; cases h)
  refine ⟨_, _, pre2 _ ?_, hrun, hended, _, _, rfl, ?_, ⟨_, rfl⟩, hW, hsame.mono (by decide) (by decide)⟩
  · show Steps p.tables e below (T1.setTop (mkF m 62 #[.val (.int (6 : Int32))] [(.ref a_G_DAY)])) _
    exact retOut X1 hx (t := (.object "com/example/datewarden/datewarden/XmlSchemaType")) (i := .areturn) Bd.returns rfl (Or.inr (Or.inr (Or.inr (Or.inr ⟨rfl, rfl, rfl⟩)))) (hb hby own_d_method_3_code_62) hr
  · show QP (.ref a_G_DAY) h0 n0 _ T1.heap _
    rw [e1]
    exact ⟨rfl, N0, rfl⟩
theorem own_ef_rm2_6 (m : MethodId) (y0 : Addr) : entryFrame m #[(.ref y0)] 1 = mkF m 0 #[.val (.ref y0)] [] := by first | (simp [entryFrame, mkF, argsToLocals, Value.category]; done) | rfl
set_option maxRecDepth 65536 in
set_option maxHeartbeats 40000000 in
theorem rm2_6 (l : Launch) (Z : State) (a0 : Array Value) (hw : ∀ d ∈ tables_1, d.before a0 Z = true) (ws : List Jvm.Cond) (a_DATE_TIME : Addr) (a_G_YEAR_MONTH : Addr) (a_DATE : Addr) (a_TIME : Addr) (a_G_YEAR : Addr) (a_G_MONTH : Addr) (a_DURATION : Addr) (a_G_DAY : Addr) (a_G_MONTH_DAY : Addr) (h0 : Heap) (n0 : Nat) (Z0 : n0 ≤ h0.size) (S_DATE_TIME : Sta Z h0 "com/example/datewarden/datewarden/XmlSchemaType" "DATE_TIME" "Lcom/example/datewarden/datewarden/XmlSchemaType;" (.ref a_DATE_TIME)) (E_DATE_TIME : Exa Z h0 a_DATE_TIME "com/example/datewarden/datewarden/XmlSchemaType$1") (S_G_YEAR_MONTH : Sta Z h0 "com/example/datewarden/datewarden/XmlSchemaType" "G_YEAR_MONTH" "Lcom/example/datewarden/datewarden/XmlSchemaType;" (.ref a_G_YEAR_MONTH)) (E_G_YEAR_MONTH : Exa Z h0 a_G_YEAR_MONTH "com/example/datewarden/datewarden/XmlSchemaType$4") (S_DATE : Sta Z h0 "com/example/datewarden/datewarden/XmlSchemaType" "DATE" "Lcom/example/datewarden/datewarden/XmlSchemaType;" (.ref a_DATE)) (E_DATE : Exa Z h0 a_DATE "com/example/datewarden/datewarden/XmlSchemaType$2") (S_TIME : Sta Z h0 "com/example/datewarden/datewarden/XmlSchemaType" "TIME" "Lcom/example/datewarden/datewarden/XmlSchemaType;" (.ref a_TIME)) (E_TIME : Exa Z h0 a_TIME "com/example/datewarden/datewarden/XmlSchemaType$3") (S_G_YEAR : Sta Z h0 "com/example/datewarden/datewarden/XmlSchemaType" "G_YEAR" "Lcom/example/datewarden/datewarden/XmlSchemaType;" (.ref a_G_YEAR)) (E_G_YEAR : Exa Z h0 a_G_YEAR "com/example/datewarden/datewarden/XmlSchemaType$5") (S_G_MONTH : Sta Z h0 "com/example/datewarden/datewarden/XmlSchemaType" "G_MONTH" "Lcom/example/datewarden/datewarden/XmlSchemaType;" (.ref a_G_MONTH)) (E_G_MONTH : Exa Z h0 a_G_MONTH "com/example/datewarden/datewarden/XmlSchemaType$8") (S_DURATION : Sta Z h0 "com/example/datewarden/datewarden/XmlSchemaType" "DURATION" "Lcom/example/datewarden/datewarden/XmlSchemaType;" (.ref a_DURATION)) (E_DURATION : Exa Z h0 a_DURATION "com/example/datewarden/datewarden/XmlSchemaType$9") (S_G_DAY : Sta Z h0 "com/example/datewarden/datewarden/XmlSchemaType" "G_DAY" "Lcom/example/datewarden/datewarden/XmlSchemaType;" (.ref a_G_DAY)) (E_G_DAY : Exa Z h0 a_G_DAY "com/example/datewarden/datewarden/XmlSchemaType$7") (S_G_MONTH_DAY : Sta Z h0 "com/example/datewarden/datewarden/XmlSchemaType" "G_MONTH_DAY" "Lcom/example/datewarden/datewarden/XmlSchemaType;" (.ref a_G_MONTH_DAY)) (E_G_MONTH_DAY : Exa Z h0 a_G_MONTH_DAY "com/example/datewarden/datewarden/XmlSchemaType$6") :
    MetFree l (⟨"com/example/datewarden/datewarden/XmlSchemaType", "takesDurations", "()Z"⟩ : MethodName) (head1 (Jvm.Cond.code (⟨"com/example/datewarden/datewarden/XmlSchemaType", "takesDurations", "()Z"⟩ : MethodName) prog_42_method_9_code 1 (some .boolean) :: ws) ({ frames := 0, cells := 0, slots := 0, locals := 0 } : Room)) (fun a U => a = #[(.ref a_G_DAY)] ∧ Z.Warmed39 U.vm ∧ U.heap = h0) (fun _ _ _ _ _ => True) (fun _ U o U' => ∃ v L, o = .returned v ∧ QP (.int (0 : Int32)) h0 n0 v U'.heap L ∧ FrameEnd U o U' L ({ frames := 0, cells := 0, slots := 0, locals := 0 } : Room).cells ({ frames := 0, cells := 0, slots := 0, locals := 0 } : Room).slots) := by
  refine MetFree.of_bodySF (plainFor_of_name own_pn1) hisR ?_
  intro p e s m args below meth c s₁ Bd hml0 hP hK
  obtain ⟨rfl, hZ, hh⟩ := hP
  have hx := Bd.exec
  have hby := Bd.bytes
  have hml : c.maxLocals = 1 := hml0
  have hown : s.vm.findClass "com/example/datewarden/datewarden/XmlSchemaType" = some m.cls := findClass_of_methodNamed Bd.named
  have hnm := (name_of_methodNamed Bd.named Bd.method).1
  have X0 : Stand p l e ({ frames := 0, cells := 0, slots := 0, locals := 0 } : Room) s m #[(.ref a_G_DAY)] below meth c s₁ [] 0 0 := Stand.of_body Bd
  have e0 : s₁.heap = h0 := by rw [← hh, Bd.state]; rfl
  have N0 := Fr.nil n0
  have pre0 : ∀ t, Steps p.tables e below (s₁.setTop (mkF m 0 #[.val (.ref a_G_DAY)] [])) t → Steps p.tables e below (s₁.setTop (entryFrame m #[(.ref a_G_DAY)] 1)) t := fun t k => castTop (own_ef_rm2_6 m a_G_DAY) k
  obtain ⟨T1, X1, e1, st1⟩ := getS2 X0 hx hZ hown (host := "") (Or.inl (hw _ (List.mem_of_getElem? (i := 13) rfl))) Via.refl e0 S_DATE_TIME (g := (mkF m 1 #[.val (.ref a_G_DAY)] [(.ref a_G_DAY)])) rfl (hb hby own_d_prog_42_method_9_code_1)
  obtain ⟨T2, X2, e2, st2⟩ := getS2 X1 hx hZ hown (host := "") (Or.inl (hw _ (List.mem_of_getElem? (i := 17) rfl))) Via.refl e1 S_DATE (g := (mkF m 8 #[.val (.ref a_G_DAY)] [(.ref a_G_DAY)])) rfl (hb hby own_d_prog_42_method_9_code_8)
  obtain ⟨T3, X3, e3, st3⟩ := getS2 X2 hx hZ hown (host := "") (Or.inl (hw _ (List.mem_of_getElem? (i := 19) rfl))) Via.refl e2 S_G_YEAR_MONTH (g := (mkF m 15 #[.val (.ref a_G_DAY)] [(.ref a_G_DAY)])) rfl (hb hby own_d_prog_42_method_9_code_15)
  obtain ⟨T4, X4, e4, st4⟩ := getS2 X3 hx hZ hown (host := "") (Or.inl (hw _ (List.mem_of_getElem? (i := 23) rfl))) Via.refl e3 S_G_YEAR (g := (mkF m 22 #[.val (.ref a_G_DAY)] [(.ref a_G_DAY)])) rfl (hb hby own_d_prog_42_method_9_code_22)
  have pre5 : ∀ t, Steps p.tables e below (T4.setTop (mkF m 33 #[.val (.ref a_G_DAY)] [(.int (0 : Int32))])) t → Steps p.tables e below (s₁.setTop (entryFrame m #[(.ref a_G_DAY)] 1)) t := fun t k => pre0 t (by
    show Steps p.tables e below (s₁.setTop (mkF m 0 #[.val (.ref a_G_DAY)] [])) _
    refine XS.aloadN X0.here hx rfl (hb hby own_d_prog_42_method_9_code_0) rfl rfl ?_
    show Steps p.tables e below (s₁.setTop (mkF m 1 #[.val (.ref a_G_DAY)] [(.ref a_G_DAY)])) _
    refine st1 _ ?_
    show Steps p.tables e below (T1.setTop (mkF m 4 #[.val (.ref a_G_DAY)] [(.ref a_DATE_TIME), (.ref a_G_DAY)])) _
    refine Jvm.RoadKit.acmp (g := (mkF m 4 #[.val (.ref a_G_DAY)] [(.ref a_DATE_TIME), (.ref a_G_DAY)])) X1 hx rfl rfl rfl (pc0 := 4) (pc' := 7) (same := false) rfl (hb hby own_d_prog_42_method_9_code_4) rfl (decide_eq_false fun q => ((ne_exa E_G_DAY E_DATE_TIME (by decide)) : ¬ (a_G_DAY = a_DATE_TIME)) (Value.ref.inj q)) (by decide) (by decide) ?_
    show Steps p.tables e below (T1.setTop (mkF m 7 #[.val (.ref a_G_DAY)] [])) _
    refine XS.aloadN X1.here hx rfl (hb hby own_d_prog_42_method_9_code_7) rfl rfl ?_
    show Steps p.tables e below (T1.setTop (mkF m 8 #[.val (.ref a_G_DAY)] [(.ref a_G_DAY)])) _
    refine st2 _ ?_
    show Steps p.tables e below (T2.setTop (mkF m 11 #[.val (.ref a_G_DAY)] [(.ref a_DATE), (.ref a_G_DAY)])) _
    refine Jvm.RoadKit.acmp (g := (mkF m 11 #[.val (.ref a_G_DAY)] [(.ref a_DATE), (.ref a_G_DAY)])) X2 hx rfl rfl rfl (pc0 := 11) (pc' := 14) (same := false) rfl (hb hby own_d_prog_42_method_9_code_11) rfl (decide_eq_false fun q => ((ne_exa E_G_DAY E_DATE (by decide)) : ¬ (a_G_DAY = a_DATE)) (Value.ref.inj q)) (by decide) (by decide) ?_
    show Steps p.tables e below (T2.setTop (mkF m 14 #[.val (.ref a_G_DAY)] [])) _
    refine XS.aloadN X2.here hx rfl (hb hby own_d_prog_42_method_9_code_14) rfl rfl ?_
    show Steps p.tables e below (T2.setTop (mkF m 15 #[.val (.ref a_G_DAY)] [(.ref a_G_DAY)])) _
    refine st3 _ ?_
    show Steps p.tables e below (T3.setTop (mkF m 18 #[.val (.ref a_G_DAY)] [(.ref a_G_YEAR_MONTH), (.ref a_G_DAY)])) _
    refine Jvm.RoadKit.acmp (g := (mkF m 18 #[.val (.ref a_G_DAY)] [(.ref a_G_YEAR_MONTH), (.ref a_G_DAY)])) X3 hx rfl rfl rfl (pc0 := 18) (pc' := 21) (same := false) rfl (hb hby own_d_prog_42_method_9_code_18) rfl (decide_eq_false fun q => ((ne_exa E_G_DAY E_G_YEAR_MONTH (by decide)) : ¬ (a_G_DAY = a_G_YEAR_MONTH)) (Value.ref.inj q)) (by decide) (by decide) ?_
    show Steps p.tables e below (T3.setTop (mkF m 21 #[.val (.ref a_G_DAY)] [])) _
    refine XS.aloadN X3.here hx rfl (hb hby own_d_prog_42_method_9_code_21) rfl rfl ?_
    show Steps p.tables e below (T3.setTop (mkF m 22 #[.val (.ref a_G_DAY)] [(.ref a_G_DAY)])) _
    refine st4 _ ?_
    show Steps p.tables e below (T4.setTop (mkF m 25 #[.val (.ref a_G_DAY)] [(.ref a_G_YEAR), (.ref a_G_DAY)])) _
    refine Jvm.RoadKit.acmp (g := (mkF m 25 #[.val (.ref a_G_DAY)] [(.ref a_G_YEAR), (.ref a_G_DAY)])) X4 hx rfl rfl rfl (pc0 := 25) (pc' := 32) (same := false) rfl (hb hby own_d_prog_42_method_9_code_25) rfl (decide_eq_false fun q => ((ne_exa E_G_DAY E_G_YEAR (by decide)) : ¬ (a_G_DAY = a_G_YEAR)) (Value.ref.inj q)) (by decide) (by decide) ?_
    show Steps p.tables e below (T4.setTop (mkF m 32 #[.val (.ref a_G_DAY)] [])) _
    refine XS.iconst X4.here hx rfl (hb hby own_d_prog_42_method_9_code_32) ?_
    exact k)
  obtain ⟨fs, hr, hrun, hended, hW, hsame⟩ := X4.leave (v := some (.int (nar .boolean (0 : Int32)))) (fun h => by rw [Bd.returns] at h; cases h)
  refine ⟨_, _, pre5 _ ?_, hrun, hended, _, _, rfl, ?_, ⟨_, rfl⟩, hW, hsame.mono (by decide) (by decide)⟩
  · show Steps p.tables e below (T4.setTop (mkF m 33 #[.val (.ref a_G_DAY)] [(.int (0 : Int32))])) _
    exact retN X4 hx (t := .boolean) Bd.returns (by simp) (hb hby own_d_prog_42_method_9_code_33) hr
  · show QP (.int (0 : Int32)) h0 n0 _ T4.heap _
    rw [e4]
    exact ⟨rfl, N0, rfl⟩
theorem own_ef_rm1_7 (m : MethodId) (y0 : Int32) : entryFrame m #[(.int y0)] 1 = mkF m 0 #[.val (.int y0)] [] := by first | (simp [entryFrame, mkF, argsToLocals, Value.category]; done) | rfl
set_option maxRecDepth 65536 in
set_option maxHeartbeats 40000000 in
theorem rm1_7 (l : Launch) (Z : State) (a0 : Array Value) (hw : ∀ d ∈ tables_1, d.before a0 Z = true) (ws : List Jvm.Cond) (a_DATE_TIME : Addr) (a_G_YEAR_MONTH : Addr) (a_DATE : Addr) (a_TIME : Addr) (a_G_YEAR : Addr) (a_G_MONTH : Addr) (a_DURATION : Addr) (a_G_DAY : Addr) (a_G_MONTH_DAY : Addr) (h0 : Heap) (n0 : Nat) (Z0 : n0 ≤ h0.size) (S_DATE_TIME : Sta Z h0 "com/example/datewarden/datewarden/XmlSchemaType" "DATE_TIME" "Lcom/example/datewarden/datewarden/XmlSchemaType;" (.ref a_DATE_TIME)) (E_DATE_TIME : Exa Z h0 a_DATE_TIME "com/example/datewarden/datewarden/XmlSchemaType$1") (S_G_YEAR_MONTH : Sta Z h0 "com/example/datewarden/datewarden/XmlSchemaType" "G_YEAR_MONTH" "Lcom/example/datewarden/datewarden/XmlSchemaType;" (.ref a_G_YEAR_MONTH)) (E_G_YEAR_MONTH : Exa Z h0 a_G_YEAR_MONTH "com/example/datewarden/datewarden/XmlSchemaType$4") (S_DATE : Sta Z h0 "com/example/datewarden/datewarden/XmlSchemaType" "DATE" "Lcom/example/datewarden/datewarden/XmlSchemaType;" (.ref a_DATE)) (E_DATE : Exa Z h0 a_DATE "com/example/datewarden/datewarden/XmlSchemaType$2") (S_TIME : Sta Z h0 "com/example/datewarden/datewarden/XmlSchemaType" "TIME" "Lcom/example/datewarden/datewarden/XmlSchemaType;" (.ref a_TIME)) (E_TIME : Exa Z h0 a_TIME "com/example/datewarden/datewarden/XmlSchemaType$3") (S_G_YEAR : Sta Z h0 "com/example/datewarden/datewarden/XmlSchemaType" "G_YEAR" "Lcom/example/datewarden/datewarden/XmlSchemaType;" (.ref a_G_YEAR)) (E_G_YEAR : Exa Z h0 a_G_YEAR "com/example/datewarden/datewarden/XmlSchemaType$5") (S_G_MONTH : Sta Z h0 "com/example/datewarden/datewarden/XmlSchemaType" "G_MONTH" "Lcom/example/datewarden/datewarden/XmlSchemaType;" (.ref a_G_MONTH)) (E_G_MONTH : Exa Z h0 a_G_MONTH "com/example/datewarden/datewarden/XmlSchemaType$8") (S_DURATION : Sta Z h0 "com/example/datewarden/datewarden/XmlSchemaType" "DURATION" "Lcom/example/datewarden/datewarden/XmlSchemaType;" (.ref a_DURATION)) (E_DURATION : Exa Z h0 a_DURATION "com/example/datewarden/datewarden/XmlSchemaType$9") (S_G_DAY : Sta Z h0 "com/example/datewarden/datewarden/XmlSchemaType" "G_DAY" "Lcom/example/datewarden/datewarden/XmlSchemaType;" (.ref a_G_DAY)) (E_G_DAY : Exa Z h0 a_G_DAY "com/example/datewarden/datewarden/XmlSchemaType$7") (S_G_MONTH_DAY : Sta Z h0 "com/example/datewarden/datewarden/XmlSchemaType" "G_MONTH_DAY" "Lcom/example/datewarden/datewarden/XmlSchemaType;" (.ref a_G_MONTH_DAY)) (E_G_MONTH_DAY : Exa Z h0 a_G_MONTH_DAY "com/example/datewarden/datewarden/XmlSchemaType$6") :
    MetFree l (⟨"com/example/datewarden/datewarden/XmlSchemaTypeTakesDurationsPinLaw", "pick", "(I)Lcom/example/datewarden/datewarden/XmlSchemaType;"⟩ : MethodName) (head1 (Jvm.Cond.code (⟨"com/example/datewarden/datewarden/XmlSchemaTypeTakesDurationsPinLaw", "pick", "(I)Lcom/example/datewarden/datewarden/XmlSchemaType;"⟩ : MethodName) method_3_code 1 (some (.object "com/example/datewarden/datewarden/XmlSchemaType")) :: ws) ({ frames := 0, cells := 0, slots := 0, locals := 0 } : Room)) (fun a U => a = #[(.int (7 : Int32))] ∧ Z.Warmed39 U.vm ∧ U.heap = h0) (fun _ _ _ _ _ => True) (fun _ U o U' => ∃ v L, o = .returned v ∧ QP (.ref a_G_MONTH) h0 n0 v U'.heap L ∧ FrameEnd U o U' L ({ frames := 0, cells := 0, slots := 0, locals := 0 } : Room).cells ({ frames := 0, cells := 0, slots := 0, locals := 0 } : Room).slots) := by
  refine MetFree.of_bodySF (plainFor_of_name own_pn0) hisR ?_
  intro p e s m args below meth c s₁ Bd hml0 hP hK
  obtain ⟨rfl, hZ, hh⟩ := hP
  have hx := Bd.exec
  have hby := Bd.bytes
  have hml : c.maxLocals = 1 := hml0
  have hown : s.vm.findClass "com/example/datewarden/datewarden/XmlSchemaTypeTakesDurationsPinLaw" = some m.cls := findClass_of_methodNamed Bd.named
  have hnm := (name_of_methodNamed Bd.named Bd.method).1
  have X0 : Stand p l e ({ frames := 0, cells := 0, slots := 0, locals := 0 } : Room) s m #[(.int (7 : Int32))] below meth c s₁ [] 0 0 := Stand.of_body Bd
  have e0 : s₁.heap = h0 := by rw [← hh, Bd.state]; rfl
  have N0 := Fr.nil n0
  have pre0 : ∀ t, Steps p.tables e below (s₁.setTop (mkF m 0 #[.val (.int (7 : Int32))] [])) t → Steps p.tables e below (s₁.setTop (entryFrame m #[(.int (7 : Int32))] 1)) t := fun t k => castTop (own_ef_rm1_7 m (7 : Int32)) k
  obtain ⟨T1, X1, e1, st1⟩ := getS2 X0 hx hZ hown (host := "") (Or.inl (hw _ (List.mem_of_getElem? (i := 27) rfl))) Via.refl e0 S_G_MONTH (g := (mkF m 69 #[.val (.int (7 : Int32))] [])) rfl (hb hby own_d_method_3_code_69)
  have pre2 : ∀ t, Steps p.tables e below (T1.setTop (mkF m 72 #[.val (.int (7 : Int32))] [(.ref a_G_MONTH)])) t → Steps p.tables e below (s₁.setTop (entryFrame m #[(.int (7 : Int32))] 1)) t := fun t k => pre0 t (by
    show Steps p.tables e below (s₁.setTop (mkF m 0 #[.val (.int (7 : Int32))] [])) _
    refine XS.iloadN X0.here hx rfl (hb hby own_d_method_3_code_0) rfl ?_
    show Steps p.tables e below (s₁.setTop (mkF m 1 #[.val (.int (7 : Int32))] [(.int (7 : Int32))])) _
    refine XS.ifYes X0.here hx rfl (pc0 := 1) (pc' := 8) rfl (hb hby own_d_method_3_code_1) rfl ((if0 _ _).trans (feq ((by decide) : ¬ ((7 : Int32) = (0 : Int32)))).2) (by decide) (by decide) ?_
    show Steps p.tables e below (s₁.setTop (mkF m 8 #[.val (.int (7 : Int32))] [])) _
    refine XS.iloadN X0.here hx rfl (hb hby own_d_method_3_code_8) rfl ?_
    show Steps p.tables e below (s₁.setTop (mkF m 9 #[.val (.int (7 : Int32))] [(.int (7 : Int32))])) _
    refine XS.iconst X0.here hx rfl (hb hby own_d_method_3_code_9) ?_
    show Steps p.tables e below (s₁.setTop (mkF m 10 #[.val (.int (7 : Int32))] [(.int (1 : Int32)), (.int (7 : Int32))])) _
    refine XS.icmpYes X0.here hx rfl (pc0 := 10) (pc' := 17) rfl (hb hby own_d_method_3_code_10) rfl (feq ((by decide) : ¬ ((7 : Int32) = (1 : Int32)))).2 (by decide) (by decide) ?_
    show Steps p.tables e below (s₁.setTop (mkF m 17 #[.val (.int (7 : Int32))] [])) _
    refine XS.iloadN X0.here hx rfl (hb hby own_d_method_3_code_17) rfl ?_
    show Steps p.tables e below (s₁.setTop (mkF m 18 #[.val (.int (7 : Int32))] [(.int (7 : Int32))])) _
    refine XS.iconst X0.here hx rfl (hb hby own_d_method_3_code_18) ?_
    show Steps p.tables e below (s₁.setTop (mkF m 19 #[.val (.int (7 : Int32))] [(.int (2 : Int32)), (.int (7 : Int32))])) _
    refine XS.icmpYes X0.here hx rfl (pc0 := 19) (pc' := 26) rfl (hb hby own_d_method_3_code_19) rfl (feq ((by decide) : ¬ ((7 : Int32) = (2 : Int32)))).2 (by decide) (by decide) ?_
    show Steps p.tables e below (s₁.setTop (mkF m 26 #[.val (.int (7 : Int32))] [])) _
    refine XS.iloadN X0.here hx rfl (hb hby own_d_method_3_code_26) rfl ?_
    show Steps p.tables e below (s₁.setTop (mkF m 27 #[.val (.int (7 : Int32))] [(.int (7 : Int32))])) _
    refine XS.iconst X0.here hx rfl (hb hby own_d_method_3_code_27) ?_
    show Steps p.tables e below (s₁.setTop (mkF m 28 #[.val (.int (7 : Int32))] [(.int (3 : Int32)), (.int (7 : Int32))])) _
    refine XS.icmpYes X0.here hx rfl (pc0 := 28) (pc' := 35) rfl (hb hby own_d_method_3_code_28) rfl (feq ((by decide) : ¬ ((7 : Int32) = (3 : Int32)))).2 (by decide) (by decide) ?_
    show Steps p.tables e below (s₁.setTop (mkF m 35 #[.val (.int (7 : Int32))] [])) _
    refine XS.iloadN X0.here hx rfl (hb hby own_d_method_3_code_35) rfl ?_
    show Steps p.tables e below (s₁.setTop (mkF m 36 #[.val (.int (7 : Int32))] [(.int (7 : Int32))])) _
    refine XS.iconst X0.here hx rfl (hb hby own_d_method_3_code_36) ?_
    show Steps p.tables e below (s₁.setTop (mkF m 37 #[.val (.int (7 : Int32))] [(.int (4 : Int32)), (.int (7 : Int32))])) _
    refine XS.icmpYes X0.here hx rfl (pc0 := 37) (pc' := 44) rfl (hb hby own_d_method_3_code_37) rfl (feq ((by decide) : ¬ ((7 : Int32) = (4 : Int32)))).2 (by decide) (by decide) ?_
    show Steps p.tables e below (s₁.setTop (mkF m 44 #[.val (.int (7 : Int32))] [])) _
    refine XS.iloadN X0.here hx rfl (hb hby own_d_method_3_code_44) rfl ?_
    show Steps p.tables e below (s₁.setTop (mkF m 45 #[.val (.int (7 : Int32))] [(.int (7 : Int32))])) _
    refine XS.iconst X0.here hx rfl (hb hby own_d_method_3_code_45) ?_
    show Steps p.tables e below (s₁.setTop (mkF m 46 #[.val (.int (7 : Int32))] [(.int (5 : Int32)), (.int (7 : Int32))])) _
    refine XS.icmpYes X0.here hx rfl (pc0 := 46) (pc' := 53) rfl (hb hby own_d_method_3_code_46) rfl (feq ((by decide) : ¬ ((7 : Int32) = (5 : Int32)))).2 (by decide) (by decide) ?_
    show Steps p.tables e below (s₁.setTop (mkF m 53 #[.val (.int (7 : Int32))] [])) _
    refine XS.iloadN X0.here hx rfl (hb hby own_d_method_3_code_53) rfl ?_
    show Steps p.tables e below (s₁.setTop (mkF m 54 #[.val (.int (7 : Int32))] [(.int (7 : Int32))])) _
    refine XS.bipush X0.here hx rfl (hb hby own_d_method_3_code_54) ?_
    show Steps p.tables e below (s₁.setTop (mkF m 56 #[.val (.int (7 : Int32))] [(.int (6 : Int32)), (.int (7 : Int32))])) _
    refine XS.icmpYes X0.here hx rfl (pc0 := 56) (pc' := 63) rfl (hb hby own_d_method_3_code_56) rfl (feq ((by decide) : ¬ ((7 : Int32) = (6 : Int32)))).2 (by decide) (by decide) ?_
    show Steps p.tables e below (s₁.setTop (mkF m 63 #[.val (.int (7 : Int32))] [])) _
    refine XS.iloadN X0.here hx rfl (hb hby own_d_method_3_code_63) rfl ?_
    show Steps p.tables e below (s₁.setTop (mkF m 64 #[.val (.int (7 : Int32))] [(.int (7 : Int32))])) _
    refine XS.bipush X0.here hx rfl (hb hby own_d_method_3_code_64) ?_
    show Steps p.tables e below (s₁.setTop (mkF m 66 #[.val (.int (7 : Int32))] [(.int (7 : Int32)), (.int (7 : Int32))])) _
    refine XS.icmpNo X0.here hx rfl (hb hby own_d_method_3_code_66) rfl (teq ((by decide) : (7 : Int32) = (7 : Int32))).2 ?_
    show Steps p.tables e below (s₁.setTop (mkF m 69 #[.val (.int (7 : Int32))] [])) _
    refine st1 _ ?_
    exact k)
  obtain ⟨fs, hr, hrun, hended, hW, hsame⟩ := X1.leave (v := some (.ref a_G_MONTH)) (fun h => by rw [Bd.returns] at h; cases h)
  refine ⟨_, _, pre2 _ ?_, hrun, hended, _, _, rfl, ?_, ⟨_, rfl⟩, hW, hsame.mono (by decide) (by decide)⟩
  · show Steps p.tables e below (T1.setTop (mkF m 72 #[.val (.int (7 : Int32))] [(.ref a_G_MONTH)])) _
    exact retOut X1 hx (t := (.object "com/example/datewarden/datewarden/XmlSchemaType")) (i := .areturn) Bd.returns rfl (Or.inr (Or.inr (Or.inr (Or.inr ⟨rfl, rfl, rfl⟩)))) (hb hby own_d_method_3_code_72) hr
  · show QP (.ref a_G_MONTH) h0 n0 _ T1.heap _
    rw [e1]
    exact ⟨rfl, N0, rfl⟩
theorem own_ef_rm2_7 (m : MethodId) (y0 : Addr) : entryFrame m #[(.ref y0)] 1 = mkF m 0 #[.val (.ref y0)] [] := by first | (simp [entryFrame, mkF, argsToLocals, Value.category]; done) | rfl
set_option maxRecDepth 65536 in
set_option maxHeartbeats 40000000 in
theorem rm2_7 (l : Launch) (Z : State) (a0 : Array Value) (hw : ∀ d ∈ tables_1, d.before a0 Z = true) (ws : List Jvm.Cond) (a_DATE_TIME : Addr) (a_G_YEAR_MONTH : Addr) (a_DATE : Addr) (a_TIME : Addr) (a_G_YEAR : Addr) (a_G_MONTH : Addr) (a_DURATION : Addr) (a_G_DAY : Addr) (a_G_MONTH_DAY : Addr) (h0 : Heap) (n0 : Nat) (Z0 : n0 ≤ h0.size) (S_DATE_TIME : Sta Z h0 "com/example/datewarden/datewarden/XmlSchemaType" "DATE_TIME" "Lcom/example/datewarden/datewarden/XmlSchemaType;" (.ref a_DATE_TIME)) (E_DATE_TIME : Exa Z h0 a_DATE_TIME "com/example/datewarden/datewarden/XmlSchemaType$1") (S_G_YEAR_MONTH : Sta Z h0 "com/example/datewarden/datewarden/XmlSchemaType" "G_YEAR_MONTH" "Lcom/example/datewarden/datewarden/XmlSchemaType;" (.ref a_G_YEAR_MONTH)) (E_G_YEAR_MONTH : Exa Z h0 a_G_YEAR_MONTH "com/example/datewarden/datewarden/XmlSchemaType$4") (S_DATE : Sta Z h0 "com/example/datewarden/datewarden/XmlSchemaType" "DATE" "Lcom/example/datewarden/datewarden/XmlSchemaType;" (.ref a_DATE)) (E_DATE : Exa Z h0 a_DATE "com/example/datewarden/datewarden/XmlSchemaType$2") (S_TIME : Sta Z h0 "com/example/datewarden/datewarden/XmlSchemaType" "TIME" "Lcom/example/datewarden/datewarden/XmlSchemaType;" (.ref a_TIME)) (E_TIME : Exa Z h0 a_TIME "com/example/datewarden/datewarden/XmlSchemaType$3") (S_G_YEAR : Sta Z h0 "com/example/datewarden/datewarden/XmlSchemaType" "G_YEAR" "Lcom/example/datewarden/datewarden/XmlSchemaType;" (.ref a_G_YEAR)) (E_G_YEAR : Exa Z h0 a_G_YEAR "com/example/datewarden/datewarden/XmlSchemaType$5") (S_G_MONTH : Sta Z h0 "com/example/datewarden/datewarden/XmlSchemaType" "G_MONTH" "Lcom/example/datewarden/datewarden/XmlSchemaType;" (.ref a_G_MONTH)) (E_G_MONTH : Exa Z h0 a_G_MONTH "com/example/datewarden/datewarden/XmlSchemaType$8") (S_DURATION : Sta Z h0 "com/example/datewarden/datewarden/XmlSchemaType" "DURATION" "Lcom/example/datewarden/datewarden/XmlSchemaType;" (.ref a_DURATION)) (E_DURATION : Exa Z h0 a_DURATION "com/example/datewarden/datewarden/XmlSchemaType$9") (S_G_DAY : Sta Z h0 "com/example/datewarden/datewarden/XmlSchemaType" "G_DAY" "Lcom/example/datewarden/datewarden/XmlSchemaType;" (.ref a_G_DAY)) (E_G_DAY : Exa Z h0 a_G_DAY "com/example/datewarden/datewarden/XmlSchemaType$7") (S_G_MONTH_DAY : Sta Z h0 "com/example/datewarden/datewarden/XmlSchemaType" "G_MONTH_DAY" "Lcom/example/datewarden/datewarden/XmlSchemaType;" (.ref a_G_MONTH_DAY)) (E_G_MONTH_DAY : Exa Z h0 a_G_MONTH_DAY "com/example/datewarden/datewarden/XmlSchemaType$6") :
    MetFree l (⟨"com/example/datewarden/datewarden/XmlSchemaType", "takesDurations", "()Z"⟩ : MethodName) (head1 (Jvm.Cond.code (⟨"com/example/datewarden/datewarden/XmlSchemaType", "takesDurations", "()Z"⟩ : MethodName) prog_42_method_9_code 1 (some .boolean) :: ws) ({ frames := 0, cells := 0, slots := 0, locals := 0 } : Room)) (fun a U => a = #[(.ref a_G_MONTH)] ∧ Z.Warmed39 U.vm ∧ U.heap = h0) (fun _ _ _ _ _ => True) (fun _ U o U' => ∃ v L, o = .returned v ∧ QP (.int (0 : Int32)) h0 n0 v U'.heap L ∧ FrameEnd U o U' L ({ frames := 0, cells := 0, slots := 0, locals := 0 } : Room).cells ({ frames := 0, cells := 0, slots := 0, locals := 0 } : Room).slots) := by
  refine MetFree.of_bodySF (plainFor_of_name own_pn1) hisR ?_
  intro p e s m args below meth c s₁ Bd hml0 hP hK
  obtain ⟨rfl, hZ, hh⟩ := hP
  have hx := Bd.exec
  have hby := Bd.bytes
  have hml : c.maxLocals = 1 := hml0
  have hown : s.vm.findClass "com/example/datewarden/datewarden/XmlSchemaType" = some m.cls := findClass_of_methodNamed Bd.named
  have hnm := (name_of_methodNamed Bd.named Bd.method).1
  have X0 : Stand p l e ({ frames := 0, cells := 0, slots := 0, locals := 0 } : Room) s m #[(.ref a_G_MONTH)] below meth c s₁ [] 0 0 := Stand.of_body Bd
  have e0 : s₁.heap = h0 := by rw [← hh, Bd.state]; rfl
  have N0 := Fr.nil n0
  have pre0 : ∀ t, Steps p.tables e below (s₁.setTop (mkF m 0 #[.val (.ref a_G_MONTH)] [])) t → Steps p.tables e below (s₁.setTop (entryFrame m #[(.ref a_G_MONTH)] 1)) t := fun t k => castTop (own_ef_rm2_7 m a_G_MONTH) k
  obtain ⟨T1, X1, e1, st1⟩ := getS2 X0 hx hZ hown (host := "") (Or.inl (hw _ (List.mem_of_getElem? (i := 13) rfl))) Via.refl e0 S_DATE_TIME (g := (mkF m 1 #[.val (.ref a_G_MONTH)] [(.ref a_G_MONTH)])) rfl (hb hby own_d_prog_42_method_9_code_1)
  obtain ⟨T2, X2, e2, st2⟩ := getS2 X1 hx hZ hown (host := "") (Or.inl (hw _ (List.mem_of_getElem? (i := 17) rfl))) Via.refl e1 S_DATE (g := (mkF m 8 #[.val (.ref a_G_MONTH)] [(.ref a_G_MONTH)])) rfl (hb hby own_d_prog_42_method_9_code_8)
  obtain ⟨T3, X3, e3, st3⟩ := getS2 X2 hx hZ hown (host := "") (Or.inl (hw _ (List.mem_of_getElem? (i := 19) rfl))) Via.refl e2 S_G_YEAR_MONTH (g := (mkF m 15 #[.val (.ref a_G_MONTH)] [(.ref a_G_MONTH)])) rfl (hb hby own_d_prog_42_method_9_code_15)
  obtain ⟨T4, X4, e4, st4⟩ := getS2 X3 hx hZ hown (host := "") (Or.inl (hw _ (List.mem_of_getElem? (i := 23) rfl))) Via.refl e3 S_G_YEAR (g := (mkF m 22 #[.val (.ref a_G_MONTH)] [(.ref a_G_MONTH)])) rfl (hb hby own_d_prog_42_method_9_code_22)
  have pre5 : ∀ t, Steps p.tables e below (T4.setTop (mkF m 33 #[.val (.ref a_G_MONTH)] [(.int (0 : Int32))])) t → Steps p.tables e below (s₁.setTop (entryFrame m #[(.ref a_G_MONTH)] 1)) t := fun t k => pre0 t (by
    show Steps p.tables e below (s₁.setTop (mkF m 0 #[.val (.ref a_G_MONTH)] [])) _
    refine XS.aloadN X0.here hx rfl (hb hby own_d_prog_42_method_9_code_0) rfl rfl ?_
    show Steps p.tables e below (s₁.setTop (mkF m 1 #[.val (.ref a_G_MONTH)] [(.ref a_G_MONTH)])) _
    refine st1 _ ?_
    show Steps p.tables e below (T1.setTop (mkF m 4 #[.val (.ref a_G_MONTH)] [(.ref a_DATE_TIME), (.ref a_G_MONTH)])) _
    refine Jvm.RoadKit.acmp (g := (mkF m 4 #[.val (.ref a_G_MONTH)] [(.ref a_DATE_TIME), (.ref a_G_MONTH)])) X1 hx rfl rfl rfl (pc0 := 4) (pc' := 7) (same := false) rfl (hb hby own_d_prog_42_method_9_code_4) rfl (decide_eq_false fun q => ((ne_exa E_G_MONTH E_DATE_TIME (by decide)) : ¬ (a_G_MONTH = a_DATE_TIME)) (Value.ref.inj q)) (by decide) (by decide) ?_
    show Steps p.tables e below (T1.setTop (mkF m 7 #[.val (.ref a_G_MONTH)] [])) _
    refine XS.aloadN X1.here hx rfl (hb hby own_d_prog_42_method_9_code_7) rfl rfl ?_
    show Steps p.tables e below (T1.setTop (mkF m 8 #[.val (.ref a_G_MONTH)] [(.ref a_G_MONTH)])) _
    refine st2 _ ?_
    show Steps p.tables e below (T2.setTop (mkF m 11 #[.val (.ref a_G_MONTH)] [(.ref a_DATE), (.ref a_G_MONTH)])) _
    refine Jvm.RoadKit.acmp (g := (mkF m 11 #[.val (.ref a_G_MONTH)] [(.ref a_DATE), (.ref a_G_MONTH)])) X2 hx rfl rfl rfl (pc0 := 11) (pc' := 14) (same := false) rfl (hb hby own_d_prog_42_method_9_code_11) rfl (decide_eq_false fun q => ((ne_exa E_G_MONTH E_DATE (by decide)) : ¬ (a_G_MONTH = a_DATE)) (Value.ref.inj q)) (by decide) (by decide) ?_
    show Steps p.tables e below (T2.setTop (mkF m 14 #[.val (.ref a_G_MONTH)] [])) _
    refine XS.aloadN X2.here hx rfl (hb hby own_d_prog_42_method_9_code_14) rfl rfl ?_
    show Steps p.tables e below (T2.setTop (mkF m 15 #[.val (.ref a_G_MONTH)] [(.ref a_G_MONTH)])) _
    refine st3 _ ?_
    show Steps p.tables e below (T3.setTop (mkF m 18 #[.val (.ref a_G_MONTH)] [(.ref a_G_YEAR_MONTH), (.ref a_G_MONTH)])) _
    refine Jvm.RoadKit.acmp (g := (mkF m 18 #[.val (.ref a_G_MONTH)] [(.ref a_G_YEAR_MONTH), (.ref a_G_MONTH)])) X3 hx rfl rfl rfl (pc0 := 18) (pc' := 21) (same := false) rfl (hb hby own_d_prog_42_method_9_code_18) rfl (decide_eq_false fun q => ((ne_exa E_G_MONTH E_G_YEAR_MONTH (by decide)) : ¬ (a_G_MONTH = a_G_YEAR_MONTH)) (Value.ref.inj q)) (by decide) (by decide) ?_
    show Steps p.tables e below (T3.setTop (mkF m 21 #[.val (.ref a_G_MONTH)] [])) _
    refine XS.aloadN X3.here hx rfl (hb hby own_d_prog_42_method_9_code_21) rfl rfl ?_
    show Steps p.tables e below (T3.setTop (mkF m 22 #[.val (.ref a_G_MONTH)] [(.ref a_G_MONTH)])) _
    refine st4 _ ?_
    show Steps p.tables e below (T4.setTop (mkF m 25 #[.val (.ref a_G_MONTH)] [(.ref a_G_YEAR), (.ref a_G_MONTH)])) _
    refine Jvm.RoadKit.acmp (g := (mkF m 25 #[.val (.ref a_G_MONTH)] [(.ref a_G_YEAR), (.ref a_G_MONTH)])) X4 hx rfl rfl rfl (pc0 := 25) (pc' := 32) (same := false) rfl (hb hby own_d_prog_42_method_9_code_25) rfl (decide_eq_false fun q => ((ne_exa E_G_MONTH E_G_YEAR (by decide)) : ¬ (a_G_MONTH = a_G_YEAR)) (Value.ref.inj q)) (by decide) (by decide) ?_
    show Steps p.tables e below (T4.setTop (mkF m 32 #[.val (.ref a_G_MONTH)] [])) _
    refine XS.iconst X4.here hx rfl (hb hby own_d_prog_42_method_9_code_32) ?_
    exact k)
  obtain ⟨fs, hr, hrun, hended, hW, hsame⟩ := X4.leave (v := some (.int (nar .boolean (0 : Int32)))) (fun h => by rw [Bd.returns] at h; cases h)
  refine ⟨_, _, pre5 _ ?_, hrun, hended, _, _, rfl, ?_, ⟨_, rfl⟩, hW, hsame.mono (by decide) (by decide)⟩
  · show Steps p.tables e below (T4.setTop (mkF m 33 #[.val (.ref a_G_MONTH)] [(.int (0 : Int32))])) _
    exact retN X4 hx (t := .boolean) Bd.returns (by simp) (hb hby own_d_prog_42_method_9_code_33) hr
  · show QP (.int (0 : Int32)) h0 n0 _ T4.heap _
    rw [e4]
    exact ⟨rfl, N0, rfl⟩
theorem own_ef_rm1_8 (m : MethodId) (y0 : Int32) : entryFrame m #[(.int y0)] 1 = mkF m 0 #[.val (.int y0)] [] := by first | (simp [entryFrame, mkF, argsToLocals, Value.category]; done) | rfl
set_option maxRecDepth 65536 in
set_option maxHeartbeats 40000000 in
theorem rm1_8 (l : Launch) (Z : State) (a0 : Array Value) (hw : ∀ d ∈ tables_1, d.before a0 Z = true) (ws : List Jvm.Cond) (a_DATE_TIME : Addr) (a_G_YEAR_MONTH : Addr) (a_DATE : Addr) (a_TIME : Addr) (a_G_YEAR : Addr) (a_G_MONTH : Addr) (a_DURATION : Addr) (a_G_DAY : Addr) (a_G_MONTH_DAY : Addr) (h0 : Heap) (n0 : Nat) (Z0 : n0 ≤ h0.size) (S_DATE_TIME : Sta Z h0 "com/example/datewarden/datewarden/XmlSchemaType" "DATE_TIME" "Lcom/example/datewarden/datewarden/XmlSchemaType;" (.ref a_DATE_TIME)) (E_DATE_TIME : Exa Z h0 a_DATE_TIME "com/example/datewarden/datewarden/XmlSchemaType$1") (S_G_YEAR_MONTH : Sta Z h0 "com/example/datewarden/datewarden/XmlSchemaType" "G_YEAR_MONTH" "Lcom/example/datewarden/datewarden/XmlSchemaType;" (.ref a_G_YEAR_MONTH)) (E_G_YEAR_MONTH : Exa Z h0 a_G_YEAR_MONTH "com/example/datewarden/datewarden/XmlSchemaType$4") (S_DATE : Sta Z h0 "com/example/datewarden/datewarden/XmlSchemaType" "DATE" "Lcom/example/datewarden/datewarden/XmlSchemaType;" (.ref a_DATE)) (E_DATE : Exa Z h0 a_DATE "com/example/datewarden/datewarden/XmlSchemaType$2") (S_TIME : Sta Z h0 "com/example/datewarden/datewarden/XmlSchemaType" "TIME" "Lcom/example/datewarden/datewarden/XmlSchemaType;" (.ref a_TIME)) (E_TIME : Exa Z h0 a_TIME "com/example/datewarden/datewarden/XmlSchemaType$3") (S_G_YEAR : Sta Z h0 "com/example/datewarden/datewarden/XmlSchemaType" "G_YEAR" "Lcom/example/datewarden/datewarden/XmlSchemaType;" (.ref a_G_YEAR)) (E_G_YEAR : Exa Z h0 a_G_YEAR "com/example/datewarden/datewarden/XmlSchemaType$5") (S_G_MONTH : Sta Z h0 "com/example/datewarden/datewarden/XmlSchemaType" "G_MONTH" "Lcom/example/datewarden/datewarden/XmlSchemaType;" (.ref a_G_MONTH)) (E_G_MONTH : Exa Z h0 a_G_MONTH "com/example/datewarden/datewarden/XmlSchemaType$8") (S_DURATION : Sta Z h0 "com/example/datewarden/datewarden/XmlSchemaType" "DURATION" "Lcom/example/datewarden/datewarden/XmlSchemaType;" (.ref a_DURATION)) (E_DURATION : Exa Z h0 a_DURATION "com/example/datewarden/datewarden/XmlSchemaType$9") (S_G_DAY : Sta Z h0 "com/example/datewarden/datewarden/XmlSchemaType" "G_DAY" "Lcom/example/datewarden/datewarden/XmlSchemaType;" (.ref a_G_DAY)) (E_G_DAY : Exa Z h0 a_G_DAY "com/example/datewarden/datewarden/XmlSchemaType$7") (S_G_MONTH_DAY : Sta Z h0 "com/example/datewarden/datewarden/XmlSchemaType" "G_MONTH_DAY" "Lcom/example/datewarden/datewarden/XmlSchemaType;" (.ref a_G_MONTH_DAY)) (E_G_MONTH_DAY : Exa Z h0 a_G_MONTH_DAY "com/example/datewarden/datewarden/XmlSchemaType$6") :
    MetFree l (⟨"com/example/datewarden/datewarden/XmlSchemaTypeTakesDurationsPinLaw", "pick", "(I)Lcom/example/datewarden/datewarden/XmlSchemaType;"⟩ : MethodName) (head1 (Jvm.Cond.code (⟨"com/example/datewarden/datewarden/XmlSchemaTypeTakesDurationsPinLaw", "pick", "(I)Lcom/example/datewarden/datewarden/XmlSchemaType;"⟩ : MethodName) method_3_code 1 (some (.object "com/example/datewarden/datewarden/XmlSchemaType")) :: ws) ({ frames := 0, cells := 0, slots := 0, locals := 0 } : Room)) (fun a U => a = #[(.int (8 : Int32))] ∧ Z.Warmed39 U.vm ∧ U.heap = h0) (fun _ _ _ _ _ => True) (fun _ U o U' => ∃ v L, o = .returned v ∧ QP (.ref a_DURATION) h0 n0 v U'.heap L ∧ FrameEnd U o U' L ({ frames := 0, cells := 0, slots := 0, locals := 0 } : Room).cells ({ frames := 0, cells := 0, slots := 0, locals := 0 } : Room).slots) := by
  refine MetFree.of_bodySF (plainFor_of_name own_pn0) hisR ?_
  intro p e s m args below meth c s₁ Bd hml0 hP hK
  obtain ⟨rfl, hZ, hh⟩ := hP
  have hx := Bd.exec
  have hby := Bd.bytes
  have hml : c.maxLocals = 1 := hml0
  have hown : s.vm.findClass "com/example/datewarden/datewarden/XmlSchemaTypeTakesDurationsPinLaw" = some m.cls := findClass_of_methodNamed Bd.named
  have hnm := (name_of_methodNamed Bd.named Bd.method).1
  have X0 : Stand p l e ({ frames := 0, cells := 0, slots := 0, locals := 0 } : Room) s m #[(.int (8 : Int32))] below meth c s₁ [] 0 0 := Stand.of_body Bd
  have e0 : s₁.heap = h0 := by rw [← hh, Bd.state]; rfl
  have N0 := Fr.nil n0
  have pre0 : ∀ t, Steps p.tables e below (s₁.setTop (mkF m 0 #[.val (.int (8 : Int32))] [])) t → Steps p.tables e below (s₁.setTop (entryFrame m #[(.int (8 : Int32))] 1)) t := fun t k => castTop (own_ef_rm1_8 m (8 : Int32)) k
  obtain ⟨T1, X1, e1, st1⟩ := getS2 X0 hx hZ hown (host := "") (Or.inl (hw _ (List.mem_of_getElem? (i := 32) rfl))) Via.refl e0 S_DURATION (g := (mkF m 73 #[.val (.int (8 : Int32))] [])) rfl (hb hby own_d_method_3_code_73)
  have pre2 : ∀ t, Steps p.tables e below (T1.setTop (mkF m 76 #[.val (.int (8 : Int32))] [(.ref a_DURATION)])) t → Steps p.tables e below (s₁.setTop (entryFrame m #[(.int (8 : Int32))] 1)) t := fun t k => pre0 t (by
    show Steps p.tables e below (s₁.setTop (mkF m 0 #[.val (.int (8 : Int32))] [])) _
    refine XS.iloadN X0.here hx rfl (hb hby own_d_method_3_code_0) rfl ?_
    show Steps p.tables e below (s₁.setTop (mkF m 1 #[.val (.int (8 : Int32))] [(.int (8 : Int32))])) _
    refine XS.ifYes X0.here hx rfl (pc0 := 1) (pc' := 8) rfl (hb hby own_d_method_3_code_1) rfl ((if0 _ _).trans (feq ((by decide) : ¬ ((8 : Int32) = (0 : Int32)))).2) (by decide) (by decide) ?_
    show Steps p.tables e below (s₁.setTop (mkF m 8 #[.val (.int (8 : Int32))] [])) _
    refine XS.iloadN X0.here hx rfl (hb hby own_d_method_3_code_8) rfl ?_
    show Steps p.tables e below (s₁.setTop (mkF m 9 #[.val (.int (8 : Int32))] [(.int (8 : Int32))])) _
    refine XS.iconst X0.here hx rfl (hb hby own_d_method_3_code_9) ?_
    show Steps p.tables e below (s₁.setTop (mkF m 10 #[.val (.int (8 : Int32))] [(.int (1 : Int32)), (.int (8 : Int32))])) _
    refine XS.icmpYes X0.here hx rfl (pc0 := 10) (pc' := 17) rfl (hb hby own_d_method_3_code_10) rfl (feq ((by decide) : ¬ ((8 : Int32) = (1 : Int32)))).2 (by decide) (by decide) ?_
    show Steps p.tables e below (s₁.setTop (mkF m 17 #[.val (.int (8 : Int32))] [])) _
    refine XS.iloadN X0.here hx rfl (hb hby own_d_method_3_code_17) rfl ?_
    show Steps p.tables e below (s₁.setTop (mkF m 18 #[.val (.int (8 : Int32))] [(.int (8 : Int32))])) _
    refine XS.iconst X0.here hx rfl (hb hby own_d_method_3_code_18) ?_
    show Steps p.tables e below (s₁.setTop (mkF m 19 #[.val (.int (8 : Int32))] [(.int (2 : Int32)), (.int (8 : Int32))])) _
    refine XS.icmpYes X0.here hx rfl (pc0 := 19) (pc' := 26) rfl (hb hby own_d_method_3_code_19) rfl (feq ((by decide) : ¬ ((8 : Int32) = (2 : Int32)))).2 (by decide) (by decide) ?_
    show Steps p.tables e below (s₁.setTop (mkF m 26 #[.val (.int (8 : Int32))] [])) _
    refine XS.iloadN X0.here hx rfl (hb hby own_d_method_3_code_26) rfl ?_
    show Steps p.tables e below (s₁.setTop (mkF m 27 #[.val (.int (8 : Int32))] [(.int (8 : Int32))])) _
    refine XS.iconst X0.here hx rfl (hb hby own_d_method_3_code_27) ?_
    show Steps p.tables e below (s₁.setTop (mkF m 28 #[.val (.int (8 : Int32))] [(.int (3 : Int32)), (.int (8 : Int32))])) _
    refine XS.icmpYes X0.here hx rfl (pc0 := 28) (pc' := 35) rfl (hb hby own_d_method_3_code_28) rfl (feq ((by decide) : ¬ ((8 : Int32) = (3 : Int32)))).2 (by decide) (by decide) ?_
    show Steps p.tables e below (s₁.setTop (mkF m 35 #[.val (.int (8 : Int32))] [])) _
    refine XS.iloadN X0.here hx rfl (hb hby own_d_method_3_code_35) rfl ?_
    show Steps p.tables e below (s₁.setTop (mkF m 36 #[.val (.int (8 : Int32))] [(.int (8 : Int32))])) _
    refine XS.iconst X0.here hx rfl (hb hby own_d_method_3_code_36) ?_
    show Steps p.tables e below (s₁.setTop (mkF m 37 #[.val (.int (8 : Int32))] [(.int (4 : Int32)), (.int (8 : Int32))])) _
    refine XS.icmpYes X0.here hx rfl (pc0 := 37) (pc' := 44) rfl (hb hby own_d_method_3_code_37) rfl (feq ((by decide) : ¬ ((8 : Int32) = (4 : Int32)))).2 (by decide) (by decide) ?_
    show Steps p.tables e below (s₁.setTop (mkF m 44 #[.val (.int (8 : Int32))] [])) _
    refine XS.iloadN X0.here hx rfl (hb hby own_d_method_3_code_44) rfl ?_
    show Steps p.tables e below (s₁.setTop (mkF m 45 #[.val (.int (8 : Int32))] [(.int (8 : Int32))])) _
    refine XS.iconst X0.here hx rfl (hb hby own_d_method_3_code_45) ?_
    show Steps p.tables e below (s₁.setTop (mkF m 46 #[.val (.int (8 : Int32))] [(.int (5 : Int32)), (.int (8 : Int32))])) _
    refine XS.icmpYes X0.here hx rfl (pc0 := 46) (pc' := 53) rfl (hb hby own_d_method_3_code_46) rfl (feq ((by decide) : ¬ ((8 : Int32) = (5 : Int32)))).2 (by decide) (by decide) ?_
    show Steps p.tables e below (s₁.setTop (mkF m 53 #[.val (.int (8 : Int32))] [])) _
    refine XS.iloadN X0.here hx rfl (hb hby own_d_method_3_code_53) rfl ?_
    show Steps p.tables e below (s₁.setTop (mkF m 54 #[.val (.int (8 : Int32))] [(.int (8 : Int32))])) _
    refine XS.bipush X0.here hx rfl (hb hby own_d_method_3_code_54) ?_
    show Steps p.tables e below (s₁.setTop (mkF m 56 #[.val (.int (8 : Int32))] [(.int (6 : Int32)), (.int (8 : Int32))])) _
    refine XS.icmpYes X0.here hx rfl (pc0 := 56) (pc' := 63) rfl (hb hby own_d_method_3_code_56) rfl (feq ((by decide) : ¬ ((8 : Int32) = (6 : Int32)))).2 (by decide) (by decide) ?_
    show Steps p.tables e below (s₁.setTop (mkF m 63 #[.val (.int (8 : Int32))] [])) _
    refine XS.iloadN X0.here hx rfl (hb hby own_d_method_3_code_63) rfl ?_
    show Steps p.tables e below (s₁.setTop (mkF m 64 #[.val (.int (8 : Int32))] [(.int (8 : Int32))])) _
    refine XS.bipush X0.here hx rfl (hb hby own_d_method_3_code_64) ?_
    show Steps p.tables e below (s₁.setTop (mkF m 66 #[.val (.int (8 : Int32))] [(.int (7 : Int32)), (.int (8 : Int32))])) _
    refine XS.icmpYes X0.here hx rfl (pc0 := 66) (pc' := 73) rfl (hb hby own_d_method_3_code_66) rfl (feq ((by decide) : ¬ ((8 : Int32) = (7 : Int32)))).2 (by decide) (by decide) ?_
    show Steps p.tables e below (s₁.setTop (mkF m 73 #[.val (.int (8 : Int32))] [])) _
    refine st1 _ ?_
    exact k)
  obtain ⟨fs, hr, hrun, hended, hW, hsame⟩ := X1.leave (v := some (.ref a_DURATION)) (fun h => by rw [Bd.returns] at h; cases h)
  refine ⟨_, _, pre2 _ ?_, hrun, hended, _, _, rfl, ?_, ⟨_, rfl⟩, hW, hsame.mono (by decide) (by decide)⟩
  · show Steps p.tables e below (T1.setTop (mkF m 76 #[.val (.int (8 : Int32))] [(.ref a_DURATION)])) _
    exact retOut X1 hx (t := (.object "com/example/datewarden/datewarden/XmlSchemaType")) (i := .areturn) Bd.returns rfl (Or.inr (Or.inr (Or.inr (Or.inr ⟨rfl, rfl, rfl⟩)))) (hb hby own_d_method_3_code_76) hr
  · show QP (.ref a_DURATION) h0 n0 _ T1.heap _
    rw [e1]
    exact ⟨rfl, N0, rfl⟩
theorem own_ef_rm2_8 (m : MethodId) (y0 : Addr) : entryFrame m #[(.ref y0)] 1 = mkF m 0 #[.val (.ref y0)] [] := by first | (simp [entryFrame, mkF, argsToLocals, Value.category]; done) | rfl
set_option maxRecDepth 65536 in
set_option maxHeartbeats 40000000 in
theorem rm2_8 (l : Launch) (Z : State) (a0 : Array Value) (hw : ∀ d ∈ tables_1, d.before a0 Z = true) (ws : List Jvm.Cond) (a_DATE_TIME : Addr) (a_G_YEAR_MONTH : Addr) (a_DATE : Addr) (a_TIME : Addr) (a_G_YEAR : Addr) (a_G_MONTH : Addr) (a_DURATION : Addr) (a_G_DAY : Addr) (a_G_MONTH_DAY : Addr) (h0 : Heap) (n0 : Nat) (Z0 : n0 ≤ h0.size) (S_DATE_TIME : Sta Z h0 "com/example/datewarden/datewarden/XmlSchemaType" "DATE_TIME" "Lcom/example/datewarden/datewarden/XmlSchemaType;" (.ref a_DATE_TIME)) (E_DATE_TIME : Exa Z h0 a_DATE_TIME "com/example/datewarden/datewarden/XmlSchemaType$1") (S_G_YEAR_MONTH : Sta Z h0 "com/example/datewarden/datewarden/XmlSchemaType" "G_YEAR_MONTH" "Lcom/example/datewarden/datewarden/XmlSchemaType;" (.ref a_G_YEAR_MONTH)) (E_G_YEAR_MONTH : Exa Z h0 a_G_YEAR_MONTH "com/example/datewarden/datewarden/XmlSchemaType$4") (S_DATE : Sta Z h0 "com/example/datewarden/datewarden/XmlSchemaType" "DATE" "Lcom/example/datewarden/datewarden/XmlSchemaType;" (.ref a_DATE)) (E_DATE : Exa Z h0 a_DATE "com/example/datewarden/datewarden/XmlSchemaType$2") (S_TIME : Sta Z h0 "com/example/datewarden/datewarden/XmlSchemaType" "TIME" "Lcom/example/datewarden/datewarden/XmlSchemaType;" (.ref a_TIME)) (E_TIME : Exa Z h0 a_TIME "com/example/datewarden/datewarden/XmlSchemaType$3") (S_G_YEAR : Sta Z h0 "com/example/datewarden/datewarden/XmlSchemaType" "G_YEAR" "Lcom/example/datewarden/datewarden/XmlSchemaType;" (.ref a_G_YEAR)) (E_G_YEAR : Exa Z h0 a_G_YEAR "com/example/datewarden/datewarden/XmlSchemaType$5") (S_G_MONTH : Sta Z h0 "com/example/datewarden/datewarden/XmlSchemaType" "G_MONTH" "Lcom/example/datewarden/datewarden/XmlSchemaType;" (.ref a_G_MONTH)) (E_G_MONTH : Exa Z h0 a_G_MONTH "com/example/datewarden/datewarden/XmlSchemaType$8") (S_DURATION : Sta Z h0 "com/example/datewarden/datewarden/XmlSchemaType" "DURATION" "Lcom/example/datewarden/datewarden/XmlSchemaType;" (.ref a_DURATION)) (E_DURATION : Exa Z h0 a_DURATION "com/example/datewarden/datewarden/XmlSchemaType$9") (S_G_DAY : Sta Z h0 "com/example/datewarden/datewarden/XmlSchemaType" "G_DAY" "Lcom/example/datewarden/datewarden/XmlSchemaType;" (.ref a_G_DAY)) (E_G_DAY : Exa Z h0 a_G_DAY "com/example/datewarden/datewarden/XmlSchemaType$7") (S_G_MONTH_DAY : Sta Z h0 "com/example/datewarden/datewarden/XmlSchemaType" "G_MONTH_DAY" "Lcom/example/datewarden/datewarden/XmlSchemaType;" (.ref a_G_MONTH_DAY)) (E_G_MONTH_DAY : Exa Z h0 a_G_MONTH_DAY "com/example/datewarden/datewarden/XmlSchemaType$6") :
    MetFree l (⟨"com/example/datewarden/datewarden/XmlSchemaType", "takesDurations", "()Z"⟩ : MethodName) (head1 (Jvm.Cond.code (⟨"com/example/datewarden/datewarden/XmlSchemaType", "takesDurations", "()Z"⟩ : MethodName) prog_42_method_9_code 1 (some .boolean) :: ws) ({ frames := 0, cells := 0, slots := 0, locals := 0 } : Room)) (fun a U => a = #[(.ref a_DURATION)] ∧ Z.Warmed39 U.vm ∧ U.heap = h0) (fun _ _ _ _ _ => True) (fun _ U o U' => ∃ v L, o = .returned v ∧ QP (.int (0 : Int32)) h0 n0 v U'.heap L ∧ FrameEnd U o U' L ({ frames := 0, cells := 0, slots := 0, locals := 0 } : Room).cells ({ frames := 0, cells := 0, slots := 0, locals := 0 } : Room).slots) := by
  refine MetFree.of_bodySF (plainFor_of_name own_pn1) hisR ?_
  intro p e s m args below meth c s₁ Bd hml0 hP hK
  obtain ⟨rfl, hZ, hh⟩ := hP
  have hx := Bd.exec
  have hby := Bd.bytes
  have hml : c.maxLocals = 1 := hml0
  have hown : s.vm.findClass "com/example/datewarden/datewarden/XmlSchemaType" = some m.cls := findClass_of_methodNamed Bd.named
  have hnm := (name_of_methodNamed Bd.named Bd.method).1
  have X0 : Stand p l e ({ frames := 0, cells := 0, slots := 0, locals := 0 } : Room) s m #[(.ref a_DURATION)] below meth c s₁ [] 0 0 := Stand.of_body Bd
  have e0 : s₁.heap = h0 := by rw [← hh, Bd.state]; rfl
  have N0 := Fr.nil n0
  have pre0 : ∀ t, Steps p.tables e below (s₁.setTop (mkF m 0 #[.val (.ref a_DURATION)] [])) t → Steps p.tables e below (s₁.setTop (entryFrame m #[(.ref a_DURATION)] 1)) t := fun t k => castTop (own_ef_rm2_8 m a_DURATION) k
  obtain ⟨T1, X1, e1, st1⟩ := getS2 X0 hx hZ hown (host := "") (Or.inl (hw _ (List.mem_of_getElem? (i := 13) rfl))) Via.refl e0 S_DATE_TIME (g := (mkF m 1 #[.val (.ref a_DURATION)] [(.ref a_DURATION)])) rfl (hb hby own_d_prog_42_method_9_code_1)
  obtain ⟨T2, X2, e2, st2⟩ := getS2 X1 hx hZ hown (host := "") (Or.inl (hw _ (List.mem_of_getElem? (i := 17) rfl))) Via.refl e1 S_DATE (g := (mkF m 8 #[.val (.ref a_DURATION)] [(.ref a_DURATION)])) rfl (hb hby own_d_prog_42_method_9_code_8)
  obtain ⟨T3, X3, e3, st3⟩ := getS2 X2 hx hZ hown (host := "") (Or.inl (hw _ (List.mem_of_getElem? (i := 19) rfl))) Via.refl e2 S_G_YEAR_MONTH (g := (mkF m 15 #[.val (.ref a_DURATION)] [(.ref a_DURATION)])) rfl (hb hby own_d_prog_42_method_9_code_15)
  obtain ⟨T4, X4, e4, st4⟩ := getS2 X3 hx hZ hown (host := "") (Or.inl (hw _ (List.mem_of_getElem? (i := 23) rfl))) Via.refl e3 S_G_YEAR (g := (mkF m 22 #[.val (.ref a_DURATION)] [(.ref a_DURATION)])) rfl (hb hby own_d_prog_42_method_9_code_22)
  have pre5 : ∀ t, Steps p.tables e below (T4.setTop (mkF m 33 #[.val (.ref a_DURATION)] [(.int (0 : Int32))])) t → Steps p.tables e below (s₁.setTop (entryFrame m #[(.ref a_DURATION)] 1)) t := fun t k => pre0 t (by
    show Steps p.tables e below (s₁.setTop (mkF m 0 #[.val (.ref a_DURATION)] [])) _
    refine XS.aloadN X0.here hx rfl (hb hby own_d_prog_42_method_9_code_0) rfl rfl ?_
    show Steps p.tables e below (s₁.setTop (mkF m 1 #[.val (.ref a_DURATION)] [(.ref a_DURATION)])) _
    refine st1 _ ?_
    show Steps p.tables e below (T1.setTop (mkF m 4 #[.val (.ref a_DURATION)] [(.ref a_DATE_TIME), (.ref a_DURATION)])) _
    refine Jvm.RoadKit.acmp (g := (mkF m 4 #[.val (.ref a_DURATION)] [(.ref a_DATE_TIME), (.ref a_DURATION)])) X1 hx rfl rfl rfl (pc0 := 4) (pc' := 7) (same := false) rfl (hb hby own_d_prog_42_method_9_code_4) rfl (decide_eq_false fun q => ((ne_exa E_DURATION E_DATE_TIME (by decide)) : ¬ (a_DURATION = a_DATE_TIME)) (Value.ref.inj q)) (by decide) (by decide) ?_
    show Steps p.tables e below (T1.setTop (mkF m 7 #[.val (.ref a_DURATION)] [])) _
    refine XS.aloadN X1.here hx rfl (hb hby own_d_prog_42_method_9_code_7) rfl rfl ?_
    show Steps p.tables e below (T1.setTop (mkF m 8 #[.val (.ref a_DURATION)] [(.ref a_DURATION)])) _
    refine st2 _ ?_
    show Steps p.tables e below (T2.setTop (mkF m 11 #[.val (.ref a_DURATION)] [(.ref a_DATE), (.ref a_DURATION)])) _
    refine Jvm.RoadKit.acmp (g := (mkF m 11 #[.val (.ref a_DURATION)] [(.ref a_DATE), (.ref a_DURATION)])) X2 hx rfl rfl rfl (pc0 := 11) (pc' := 14) (same := false) rfl (hb hby own_d_prog_42_method_9_code_11) rfl (decide_eq_false fun q => ((ne_exa E_DURATION E_DATE (by decide)) : ¬ (a_DURATION = a_DATE)) (Value.ref.inj q)) (by decide) (by decide) ?_
    show Steps p.tables e below (T2.setTop (mkF m 14 #[.val (.ref a_DURATION)] [])) _
    refine XS.aloadN X2.here hx rfl (hb hby own_d_prog_42_method_9_code_14) rfl rfl ?_
    show Steps p.tables e below (T2.setTop (mkF m 15 #[.val (.ref a_DURATION)] [(.ref a_DURATION)])) _
    refine st3 _ ?_
    show Steps p.tables e below (T3.setTop (mkF m 18 #[.val (.ref a_DURATION)] [(.ref a_G_YEAR_MONTH), (.ref a_DURATION)])) _
    refine Jvm.RoadKit.acmp (g := (mkF m 18 #[.val (.ref a_DURATION)] [(.ref a_G_YEAR_MONTH), (.ref a_DURATION)])) X3 hx rfl rfl rfl (pc0 := 18) (pc' := 21) (same := false) rfl (hb hby own_d_prog_42_method_9_code_18) rfl (decide_eq_false fun q => ((ne_exa E_DURATION E_G_YEAR_MONTH (by decide)) : ¬ (a_DURATION = a_G_YEAR_MONTH)) (Value.ref.inj q)) (by decide) (by decide) ?_
    show Steps p.tables e below (T3.setTop (mkF m 21 #[.val (.ref a_DURATION)] [])) _
    refine XS.aloadN X3.here hx rfl (hb hby own_d_prog_42_method_9_code_21) rfl rfl ?_
    show Steps p.tables e below (T3.setTop (mkF m 22 #[.val (.ref a_DURATION)] [(.ref a_DURATION)])) _
    refine st4 _ ?_
    show Steps p.tables e below (T4.setTop (mkF m 25 #[.val (.ref a_DURATION)] [(.ref a_G_YEAR), (.ref a_DURATION)])) _
    refine Jvm.RoadKit.acmp (g := (mkF m 25 #[.val (.ref a_DURATION)] [(.ref a_G_YEAR), (.ref a_DURATION)])) X4 hx rfl rfl rfl (pc0 := 25) (pc' := 32) (same := false) rfl (hb hby own_d_prog_42_method_9_code_25) rfl (decide_eq_false fun q => ((ne_exa E_DURATION E_G_YEAR (by decide)) : ¬ (a_DURATION = a_G_YEAR)) (Value.ref.inj q)) (by decide) (by decide) ?_
    show Steps p.tables e below (T4.setTop (mkF m 32 #[.val (.ref a_DURATION)] [])) _
    refine XS.iconst X4.here hx rfl (hb hby own_d_prog_42_method_9_code_32) ?_
    exact k)
  obtain ⟨fs, hr, hrun, hended, hW, hsame⟩ := X4.leave (v := some (.int (nar .boolean (0 : Int32)))) (fun h => by rw [Bd.returns] at h; cases h)
  refine ⟨_, _, pre5 _ ?_, hrun, hended, _, _, rfl, ?_, ⟨_, rfl⟩, hW, hsame.mono (by decide) (by decide)⟩
  · show Steps p.tables e below (T4.setTop (mkF m 33 #[.val (.ref a_DURATION)] [(.int (0 : Int32))])) _
    exact retN X4 hx (t := .boolean) Bd.returns (by simp) (hb hby own_d_prog_42_method_9_code_33) hr
  · show QP (.int (0 : Int32)) h0 n0 _ T4.heap _
    rw [e4]
    exact ⟨rfl, N0, rfl⟩
theorem own_ef_rm0 (m : MethodId) (y0 : Int32) : entryFrame m #[(.int y0)] maxLocals = mkF m 0 #[.val (.int y0), .unset, .unset, .unset] [] := by first | (simp [entryFrame, mkF, argsToLocals, Value.category, maxLocals]; done) | rfl
set_option maxRecDepth 65536 in
set_option maxHeartbeats 40000000 in
theorem rm0 (l : Launch) (Z : State) (a0 : Array Value) (hw : ∀ d ∈ tables_1, d.before a0 Z = true) (ws : List Jvm.Cond) (p1 : Int32) (a_DATE_TIME : Addr) (a_G_YEAR_MONTH : Addr) (a_DATE : Addr) (a_TIME : Addr) (a_G_YEAR : Addr) (a_G_MONTH : Addr) (a_DURATION : Addr) (a_G_DAY : Addr) (a_G_MONTH_DAY : Addr) (h0 : Heap) (n0 : Nat) (Z0 : n0 ≤ h0.size) (S_DATE_TIME : Sta Z h0 "com/example/datewarden/datewarden/XmlSchemaType" "DATE_TIME" "Lcom/example/datewarden/datewarden/XmlSchemaType;" (.ref a_DATE_TIME)) (E_DATE_TIME : Exa Z h0 a_DATE_TIME "com/example/datewarden/datewarden/XmlSchemaType$1") (S_G_YEAR_MONTH : Sta Z h0 "com/example/datewarden/datewarden/XmlSchemaType" "G_YEAR_MONTH" "Lcom/example/datewarden/datewarden/XmlSchemaType;" (.ref a_G_YEAR_MONTH)) (E_G_YEAR_MONTH : Exa Z h0 a_G_YEAR_MONTH "com/example/datewarden/datewarden/XmlSchemaType$4") (S_DATE : Sta Z h0 "com/example/datewarden/datewarden/XmlSchemaType" "DATE" "Lcom/example/datewarden/datewarden/XmlSchemaType;" (.ref a_DATE)) (E_DATE : Exa Z h0 a_DATE "com/example/datewarden/datewarden/XmlSchemaType$2") (S_TIME : Sta Z h0 "com/example/datewarden/datewarden/XmlSchemaType" "TIME" "Lcom/example/datewarden/datewarden/XmlSchemaType;" (.ref a_TIME)) (E_TIME : Exa Z h0 a_TIME "com/example/datewarden/datewarden/XmlSchemaType$3") (S_G_YEAR : Sta Z h0 "com/example/datewarden/datewarden/XmlSchemaType" "G_YEAR" "Lcom/example/datewarden/datewarden/XmlSchemaType;" (.ref a_G_YEAR)) (E_G_YEAR : Exa Z h0 a_G_YEAR "com/example/datewarden/datewarden/XmlSchemaType$5") (S_G_MONTH : Sta Z h0 "com/example/datewarden/datewarden/XmlSchemaType" "G_MONTH" "Lcom/example/datewarden/datewarden/XmlSchemaType;" (.ref a_G_MONTH)) (E_G_MONTH : Exa Z h0 a_G_MONTH "com/example/datewarden/datewarden/XmlSchemaType$8") (S_DURATION : Sta Z h0 "com/example/datewarden/datewarden/XmlSchemaType" "DURATION" "Lcom/example/datewarden/datewarden/XmlSchemaType;" (.ref a_DURATION)) (E_DURATION : Exa Z h0 a_DURATION "com/example/datewarden/datewarden/XmlSchemaType$9") (S_G_DAY : Sta Z h0 "com/example/datewarden/datewarden/XmlSchemaType" "G_DAY" "Lcom/example/datewarden/datewarden/XmlSchemaType;" (.ref a_G_DAY)) (E_G_DAY : Exa Z h0 a_G_DAY "com/example/datewarden/datewarden/XmlSchemaType$7") (S_G_MONTH_DAY : Sta Z h0 "com/example/datewarden/datewarden/XmlSchemaType" "G_MONTH_DAY" "Lcom/example/datewarden/datewarden/XmlSchemaType;" (.ref a_G_MONTH_DAY)) (E_G_MONTH_DAY : Exa Z h0 a_G_MONTH_DAY "com/example/datewarden/datewarden/XmlSchemaType$6") :
    MetFree l x (head1 (Jvm.Cond.code x code maxLocals ret :: ws) room_1) (fun a U => a = #[(.int p1)] ∧ Z.Warmed39 U.vm ∧ U.heap = h0) (fun _ _ _ _ _ => True) (fun _ U o U' => ∃ v L, o = .returned v ∧ QL n0 v U'.heap L ∧ FrameEnd U o U' L 0 0) := by
  refine MetFree.of_bodySF (plainFor_of_name own_pn0) hisR ?_
  intro p e s m args below meth c s₁ Bd hml0 hP hK
  obtain ⟨rfl, hZ, hh⟩ := hP
  have hx := Bd.exec
  have hby := Bd.bytes
  have hml : c.maxLocals = 4 := hml0
  have hown : s.vm.findClass "com/example/datewarden/datewarden/XmlSchemaTypeTakesDurationsPinLaw" = some m.cls := findClass_of_methodNamed Bd.named
  have hnm := (name_of_methodNamed Bd.named Bd.method).1
  have X0 : Stand p l e room_1 s m #[(.int p1)] below meth c s₁ [] 0 0 := Stand.of_body Bd
  have e0 : s₁.heap = h0 := by rw [← hh, Bd.state]; rfl
  have N0 := Fr.nil n0
  have pre0 : ∀ t, Steps p.tables e below (s₁.setTop (mkF m 0 #[.val (.int p1), .unset, .unset, .unset] [])) t → Steps p.tables e below (s₁.setTop (entryFrame m #[(.int p1)] maxLocals)) t := fun t k => castTop (own_ef_rm0 m p1) k
  have hk := own_k p1
  have pre1 : ∀ t, Steps p.tables e below (s₁.setTop (mkF m 7 #[.val (.int p1), .unset, .unset, .unset] [(.int ((p1 &&& (2147483647 : Int32)) % (9 : Int32)))])) t → Steps p.tables e below (s₁.setTop (entryFrame m #[(.int p1)] maxLocals)) t := fun t k => pre0 t (by
    show Steps p.tables e below (s₁.setTop (mkF m 0 #[.val (.int p1), .unset, .unset, .unset] [])) _
    refine XS.iloadN X0.here hx rfl (hb hby at_0) rfl ?_
    show Steps p.tables e below (s₁.setTop (mkF m 1 #[.val (.int p1), .unset, .unset, .unset] [(.int p1)])) _
    refine X0.ldcInt hx hown (mvT hZ (hw _ (List.mem_of_getElem? (i := 0) rfl))) (g := (mkF m 1 #[.val (.int p1), .unset, .unset, .unset] [(.int p1)])) rfl (hb hby at_1) _ ?_
    show Steps p.tables e below (s₁.setTop (mkF m 3 #[.val (.int p1), .unset, .unset, .unset] [(.int (2147483647 : Int32)), (.int p1)])) _
    refine XS.iand X0.here hx rfl (hb hby at_3) rfl ?_
    show Steps p.tables e below (s₁.setTop (mkF m 4 #[.val (.int p1), .unset, .unset, .unset] [(.int (p1 &&& (2147483647 : Int32)))])) _
    refine XS.bipush X0.here hx rfl (hb hby at_4) ?_
    show Steps p.tables e below (s₁.setTop (mkF m 6 #[.val (.int p1), .unset, .unset, .unset] [(.int (9 : Int32)), (.int (p1 &&& (2147483647 : Int32)))])) _
    refine iremM X0 hx rfl (hb hby at_6) rfl (by decide) ?_
    exact k)
  obtain ⟨k0, h_k0⟩ : ∃ z : Int32, z = ((p1 &&& (2147483647 : Int32)) % (9 : Int32)) := ⟨_, rfl⟩
  rw [← h_k0] at pre1
  rw [← h_k0] at hk
  rcases hk with hk | hk | hk | hk | hk | hk | hk | hk | hk
  · subst hk
    obtain ⟨_, _, ⟨T2, L2, k2, n2⟩, -, X2, ⟨Lc2, hQ2, l2, y2, z2⟩, st2⟩ := Jvm.LawKit.callS X0 hx (y := (⟨"com/example/datewarden/datewarden/XmlSchemaTypeTakesDurationsPinLaw", "pick", "(I)Lcom/example/datewarden/datewarden/XmlSchemaType;"⟩ : MethodName)) hown (mvT hZ (hw _ (List.mem_of_getElem? (i := 1) rfl))) (mvT hZ (hw _ (List.mem_of_getElem? (i := 2) rfl))) (mvT hZ (hw _ (List.mem_of_getElem? (i := 3) rfl))) (mvT hZ (hw _ (List.mem_of_getElem? (i := 4) rfl))) (by decide) (backOf (W := 0) (rm1_0 l Z a0 hw []  a_DATE_TIME a_G_YEAR_MONTH a_DATE a_TIME a_G_YEAR a_G_MONTH a_DURATION a_G_DAY a_G_MONTH_DAY h0 n0 Z0 S_DATE_TIME E_DATE_TIME S_G_YEAR_MONTH E_G_YEAR_MONTH S_DATE E_DATE S_TIME E_TIME S_G_YEAR E_G_YEAR S_G_MONTH E_G_MONTH S_DURATION E_DURATION S_G_DAY E_G_DAY S_G_MONTH_DAY E_G_MONTH_DAY) hZ (hw _ (List.mem_of_getElem? (i := 4) rfl)) (hw _ (List.mem_of_getElem? (i := 3) rfl)) (by decide) (by decide)) (g := (mkF m 9 #[.val (.int p1), .val (.int (0 : Int32)), .unset, .unset] [(.int (0 : Int32))])) rfl (by rw [hml]; rfl) (argsL := [(.int (0 : Int32))]) (rest := []) (lenOf own_pd0 rfl) rfl (by show 2 * 0 + _ ≤ _; exact Nat.le_of_eq rfl) (hb hby at_9) (fun _ _ => ⟨rfl, e0, (by decide : 0 + 0 ≤ _), (by decide : 0 + 0 ≤ _)⟩)
    dsimp only [Pt.U, Pt.locs, Pt.cells, Pt.slots] at X2 l2 y2 z2 st2 hQ2
    subst l2 y2 z2
    obtain ⟨rfl, N2q, e2⟩ := hQ2
    have N2 := Fr.app N0 N2q
    obtain ⟨cq3, kq3, q3a, q3b, q3c⟩ := isOf hZ e2 E_DATE_TIME
    obtain ⟨_, _, ⟨T3, L3, k3, n3⟩, -, X3, ⟨Lc3, hQ3, l3, y3, z3⟩, st3⟩ := X2.virtualBack hx (y := (⟨"com/example/datewarden/datewarden/XmlSchemaType", "takesDurations", "()Z"⟩ : MethodName)) (z := (⟨"com/example/datewarden/datewarden/XmlSchemaType", "takesDurations", "()Z"⟩ : MethodName)) hown (mvT hZ (hw _ (List.mem_of_getElem? (i := 8) rfl))) (mvT hZ (hw _ (List.mem_of_getElem? (i := 9) rfl))) (notFace_of_selects (args := #[]) (mvT hZ (hw _ (List.mem_of_getElem? (i := 11) rfl)))) (mvT hZ (hw _ (List.mem_of_getElem? (i := 11) rfl))) (mvT hZ (hw _ (List.mem_of_getElem? (i := 10) rfl))) (by decide) (backOf (W := 0) (rm2_0 l Z a0 hw []  a_DATE_TIME a_G_YEAR_MONTH a_DATE a_TIME a_G_YEAR a_G_MONTH a_DURATION a_G_DAY a_G_MONTH_DAY h0 n0 Z0 S_DATE_TIME E_DATE_TIME S_G_YEAR_MONTH E_G_YEAR_MONTH S_DATE E_DATE S_TIME E_TIME S_G_YEAR E_G_YEAR S_G_MONTH E_G_MONTH S_DURATION E_DURATION S_G_DAY E_G_DAY S_G_MONTH_DAY E_G_MONTH_DAY) hZ (hw _ (List.mem_of_getElem? (i := 12) rfl)) (hw _ (List.mem_of_getElem? (i := 6) rfl)) (by decide) (by decide)) q3a q3c (g := (mkF m 39 #[.val (.int p1), .val (.int (0 : Int32)), .val (.ref a_DATE_TIME), .val (.int (1 : Int32))] [(.ref a_DATE_TIME)])) rfl (by rw [hml]; rfl) (Steps.refl _) (argsL := []) (rest := []) (lenOf own_pd1 rfl) rfl (by show 2 * 0 + _ ≤ _; exact Nat.le_of_eq rfl) (hb hby at_39) (fun _ _ => ⟨rfl, e2, (by decide : 0 + 0 ≤ _), (by decide : 0 + 0 ≤ _)⟩)
    dsimp only [Pt.U, Pt.locs, Pt.cells, Pt.slots] at X3 l3 y3 z3 st3 hQ3
    subst l3 y3 z3
    obtain ⟨rfl, N3q, e3⟩ := hQ3
    have N3 := Fr.app N2 N3q
    have pre4 : ∀ t, Steps p.tables e below (T3.setTop (mkF m 51 #[.val (.int p1), .val (.int (0 : Int32)), .val (.ref a_DATE_TIME), .val (.int (1 : Int32))] [(.int (1 : Int32))])) t → Steps p.tables e below (s₁.setTop (entryFrame m #[(.int p1)] maxLocals)) t := fun t k => pre1 t (by
      show Steps p.tables e below (s₁.setTop (mkF m 7 #[.val (.int p1), .unset, .unset, .unset] [(.int (0 : Int32))])) _
      refine XS.istoreN X0.here hx rfl (hb hby at_7) rfl (l' := #[.val (.int p1), .val (.int (0 : Int32)), .unset, .unset]) rfl ?_
      show Steps p.tables e below (s₁.setTop (mkF m 8 #[.val (.int p1), .val (.int (0 : Int32)), .unset, .unset] [])) _
      refine XS.iloadN X0.here hx rfl (hb hby at_8) rfl ?_
      show Steps p.tables e below (s₁.setTop (mkF m 9 #[.val (.int p1), .val (.int (0 : Int32)), .unset, .unset] [(.int (0 : Int32))])) _
      refine st2 _ ?_
      show Steps p.tables e below (T2.setTop (mkF m 12 #[.val (.int p1), .val (.int (0 : Int32)), .unset, .unset] [(.ref a_DATE_TIME)])) _
      refine XS.astoreN X2.here hx rfl (hb hby at_12) rfl rfl (l' := #[.val (.int p1), .val (.int (0 : Int32)), .val (.ref a_DATE_TIME), .unset]) rfl ?_
      show Steps p.tables e below (T2.setTop (mkF m 13 #[.val (.int p1), .val (.int (0 : Int32)), .val (.ref a_DATE_TIME), .unset] [])) _
      refine XS.iloadN X2.here hx rfl (hb hby at_13) rfl ?_
      show Steps p.tables e below (T2.setTop (mkF m 14 #[.val (.int p1), .val (.int (0 : Int32)), .val (.ref a_DATE_TIME), .unset] [(.int (0 : Int32))])) _
      refine XS.ifYes X2.here hx rfl (pc0 := 14) (pc' := 32) rfl (hb hby at_14) rfl ((if0 _ _).trans (teq ((by decide) : (0 : Int32) = (0 : Int32))).1) (by decide) (by decide) ?_
      show Steps p.tables e below (T2.setTop (mkF m 32 #[.val (.int p1), .val (.int (0 : Int32)), .val (.ref a_DATE_TIME), .unset] [])) _
      refine XS.iconst X2.here hx rfl (hb hby at_32) ?_
      show Steps p.tables e below (T2.setTop (mkF m 33 #[.val (.int p1), .val (.int (0 : Int32)), .val (.ref a_DATE_TIME), .unset] [(.int (1 : Int32))])) _
      refine XS.goto X2.here hx rfl (pc0 := 33) (pc' := 37) rfl (hb hby at_33) (by decide) (by decide) ?_
      show Steps p.tables e below (T2.setTop (mkF m 37 #[.val (.int p1), .val (.int (0 : Int32)), .val (.ref a_DATE_TIME), .unset] [(.int (1 : Int32))])) _
      refine XS.istoreN X2.here hx rfl (hb hby at_37) rfl (l' := #[.val (.int p1), .val (.int (0 : Int32)), .val (.ref a_DATE_TIME), .val (.int (1 : Int32))]) rfl ?_
      show Steps p.tables e below (T2.setTop (mkF m 38 #[.val (.int p1), .val (.int (0 : Int32)), .val (.ref a_DATE_TIME), .val (.int (1 : Int32))] [])) _
      refine XS.aloadN X2.here hx rfl (hb hby at_38) rfl rfl ?_
      show Steps p.tables e below (T2.setTop (mkF m 39 #[.val (.int p1), .val (.int (0 : Int32)), .val (.ref a_DATE_TIME), .val (.int (1 : Int32))] [(.ref a_DATE_TIME)])) _
      refine st3.trans ?_
      show Steps p.tables e below (T3.setTop (mkF m 42 #[.val (.int p1), .val (.int (0 : Int32)), .val (.ref a_DATE_TIME), .val (.int (1 : Int32))] [(.int (1 : Int32))])) _
      refine XS.iloadN X3.here hx rfl (hb hby at_42) rfl ?_
      show Steps p.tables e below (T3.setTop (mkF m 43 #[.val (.int p1), .val (.int (0 : Int32)), .val (.ref a_DATE_TIME), .val (.int (1 : Int32))] [(.int (1 : Int32)), (.int (1 : Int32))])) _
      refine XS.icmpNo X3.here hx rfl (hb hby at_43) rfl (teq ((by decide) : (1 : Int32) = (1 : Int32))).2 ?_
      show Steps p.tables e below (T3.setTop (mkF m 46 #[.val (.int p1), .val (.int (0 : Int32)), .val (.ref a_DATE_TIME), .val (.int (1 : Int32))] [])) _
      refine XS.iconst X3.here hx rfl (hb hby at_46) ?_
      show Steps p.tables e below (T3.setTop (mkF m 47 #[.val (.int p1), .val (.int (0 : Int32)), .val (.ref a_DATE_TIME), .val (.int (1 : Int32))] [(.int (1 : Int32))])) _
      refine XS.goto X3.here hx rfl (pc0 := 47) (pc' := 51) rfl (hb hby at_47) (by decide) (by decide) ?_
      exact k)
    obtain ⟨fs, hr, hrun, hended, hW, hsame⟩ := X3.leave (v := some (.int (nar .boolean (1 : Int32)))) (fun h => by rw [Bd.returns] at h; cases h)
    refine ⟨_, _, pre4 _ ?_, hrun, hended, _, _, rfl, ?_, ⟨_, rfl⟩, hW, hsame.mono (by decide) (by decide)⟩
    · show Steps p.tables e below (T3.setTop (mkF m 51 #[.val (.int p1), .val (.int (0 : Int32)), .val (.ref a_DATE_TIME), .val (.int (1 : Int32))] [(.int (1 : Int32))])) _
      exact retN X3 hx (t := .boolean) Bd.returns (by simp) (hb hby at_51) hr
    · show QL n0 _ T3.heap _
      rw [e3]
      exact ⟨rfl, N3⟩
  · subst hk
    obtain ⟨_, _, ⟨T5, L5, k5, n5⟩, -, X5, ⟨Lc5, hQ5, l5, y5, z5⟩, st5⟩ := Jvm.LawKit.callS X0 hx (y := (⟨"com/example/datewarden/datewarden/XmlSchemaTypeTakesDurationsPinLaw", "pick", "(I)Lcom/example/datewarden/datewarden/XmlSchemaType;"⟩ : MethodName)) hown (mvT hZ (hw _ (List.mem_of_getElem? (i := 1) rfl))) (mvT hZ (hw _ (List.mem_of_getElem? (i := 2) rfl))) (mvT hZ (hw _ (List.mem_of_getElem? (i := 3) rfl))) (mvT hZ (hw _ (List.mem_of_getElem? (i := 4) rfl))) (by decide) (backOf (W := 0) (rm1_1 l Z a0 hw []  a_DATE_TIME a_G_YEAR_MONTH a_DATE a_TIME a_G_YEAR a_G_MONTH a_DURATION a_G_DAY a_G_MONTH_DAY h0 n0 Z0 S_DATE_TIME E_DATE_TIME S_G_YEAR_MONTH E_G_YEAR_MONTH S_DATE E_DATE S_TIME E_TIME S_G_YEAR E_G_YEAR S_G_MONTH E_G_MONTH S_DURATION E_DURATION S_G_DAY E_G_DAY S_G_MONTH_DAY E_G_MONTH_DAY) hZ (hw _ (List.mem_of_getElem? (i := 4) rfl)) (hw _ (List.mem_of_getElem? (i := 3) rfl)) (by decide) (by decide)) (g := (mkF m 9 #[.val (.int p1), .val (.int (1 : Int32)), .unset, .unset] [(.int (1 : Int32))])) rfl (by rw [hml]; rfl) (argsL := [(.int (1 : Int32))]) (rest := []) (lenOf own_pd0 rfl) rfl (by show 2 * 0 + _ ≤ _; exact Nat.le_of_eq rfl) (hb hby at_9) (fun _ _ => ⟨rfl, e0, (by decide : 0 + 0 ≤ _), (by decide : 0 + 0 ≤ _)⟩)
    dsimp only [Pt.U, Pt.locs, Pt.cells, Pt.slots] at X5 l5 y5 z5 st5 hQ5
    subst l5 y5 z5
    obtain ⟨rfl, N5q, e5⟩ := hQ5
    have N5 := Fr.app N0 N5q
    obtain ⟨cq6, kq6, q6a, q6b, q6c⟩ := isOf hZ e5 E_DATE
    obtain ⟨_, _, ⟨T6, L6, k6, n6⟩, -, X6, ⟨Lc6, hQ6, l6, y6, z6⟩, st6⟩ := X5.virtualBack hx (y := (⟨"com/example/datewarden/datewarden/XmlSchemaType", "takesDurations", "()Z"⟩ : MethodName)) (z := (⟨"com/example/datewarden/datewarden/XmlSchemaType", "takesDurations", "()Z"⟩ : MethodName)) hown (mvT hZ (hw _ (List.mem_of_getElem? (i := 8) rfl))) (mvT hZ (hw _ (List.mem_of_getElem? (i := 9) rfl))) (notFace_of_selects (args := #[]) (mvT hZ (hw _ (List.mem_of_getElem? (i := 26) rfl)))) (mvT hZ (hw _ (List.mem_of_getElem? (i := 26) rfl))) (mvT hZ (hw _ (List.mem_of_getElem? (i := 10) rfl))) (by decide) (backOf (W := 0) (rm2_1 l Z a0 hw []  a_DATE_TIME a_G_YEAR_MONTH a_DATE a_TIME a_G_YEAR a_G_MONTH a_DURATION a_G_DAY a_G_MONTH_DAY h0 n0 Z0 S_DATE_TIME E_DATE_TIME S_G_YEAR_MONTH E_G_YEAR_MONTH S_DATE E_DATE S_TIME E_TIME S_G_YEAR E_G_YEAR S_G_MONTH E_G_MONTH S_DURATION E_DURATION S_G_DAY E_G_DAY S_G_MONTH_DAY E_G_MONTH_DAY) hZ (hw _ (List.mem_of_getElem? (i := 12) rfl)) (hw _ (List.mem_of_getElem? (i := 6) rfl)) (by decide) (by decide)) q6a q6c (g := (mkF m 39 #[.val (.int p1), .val (.int (1 : Int32)), .val (.ref a_DATE), .val (.int (1 : Int32))] [(.ref a_DATE)])) rfl (by rw [hml]; rfl) (Steps.refl _) (argsL := []) (rest := []) (lenOf own_pd1 rfl) rfl (by show 2 * 0 + _ ≤ _; exact Nat.le_of_eq rfl) (hb hby at_39) (fun _ _ => ⟨rfl, e5, (by decide : 0 + 0 ≤ _), (by decide : 0 + 0 ≤ _)⟩)
    dsimp only [Pt.U, Pt.locs, Pt.cells, Pt.slots] at X6 l6 y6 z6 st6 hQ6
    subst l6 y6 z6
    obtain ⟨rfl, N6q, e6⟩ := hQ6
    have N6 := Fr.app N5 N6q
    have pre7 : ∀ t, Steps p.tables e below (T6.setTop (mkF m 51 #[.val (.int p1), .val (.int (1 : Int32)), .val (.ref a_DATE), .val (.int (1 : Int32))] [(.int (1 : Int32))])) t → Steps p.tables e below (s₁.setTop (entryFrame m #[(.int p1)] maxLocals)) t := fun t k => pre1 t (by
      show Steps p.tables e below (s₁.setTop (mkF m 7 #[.val (.int p1), .unset, .unset, .unset] [(.int (1 : Int32))])) _
      refine XS.istoreN X0.here hx rfl (hb hby at_7) rfl (l' := #[.val (.int p1), .val (.int (1 : Int32)), .unset, .unset]) rfl ?_
      show Steps p.tables e below (s₁.setTop (mkF m 8 #[.val (.int p1), .val (.int (1 : Int32)), .unset, .unset] [])) _
      refine XS.iloadN X0.here hx rfl (hb hby at_8) rfl ?_
      show Steps p.tables e below (s₁.setTop (mkF m 9 #[.val (.int p1), .val (.int (1 : Int32)), .unset, .unset] [(.int (1 : Int32))])) _
      refine st5 _ ?_
      show Steps p.tables e below (T5.setTop (mkF m 12 #[.val (.int p1), .val (.int (1 : Int32)), .unset, .unset] [(.ref a_DATE)])) _
      refine XS.astoreN X5.here hx rfl (hb hby at_12) rfl rfl (l' := #[.val (.int p1), .val (.int (1 : Int32)), .val (.ref a_DATE), .unset]) rfl ?_
      show Steps p.tables e below (T5.setTop (mkF m 13 #[.val (.int p1), .val (.int (1 : Int32)), .val (.ref a_DATE), .unset] [])) _
      refine XS.iloadN X5.here hx rfl (hb hby at_13) rfl ?_
      show Steps p.tables e below (T5.setTop (mkF m 14 #[.val (.int p1), .val (.int (1 : Int32)), .val (.ref a_DATE), .unset] [(.int (1 : Int32))])) _
      refine XS.ifNo X5.here hx rfl (hb hby at_14) rfl ((if0 _ _).trans (feq ((by decide) : ¬ ((1 : Int32) = (0 : Int32)))).1) ?_
      show Steps p.tables e below (T5.setTop (mkF m 17 #[.val (.int p1), .val (.int (1 : Int32)), .val (.ref a_DATE), .unset] [])) _
      refine XS.iloadN X5.here hx rfl (hb hby at_17) rfl ?_
      show Steps p.tables e below (T5.setTop (mkF m 18 #[.val (.int p1), .val (.int (1 : Int32)), .val (.ref a_DATE), .unset] [(.int (1 : Int32))])) _
      refine XS.iconst X5.here hx rfl (hb hby at_18) ?_
      show Steps p.tables e below (T5.setTop (mkF m 19 #[.val (.int p1), .val (.int (1 : Int32)), .val (.ref a_DATE), .unset] [(.int (1 : Int32)), (.int (1 : Int32))])) _
      refine XS.icmpYes X5.here hx rfl (pc0 := 19) (pc' := 32) rfl (hb hby at_19) rfl (teq ((by decide) : (1 : Int32) = (1 : Int32))).1 (by decide) (by decide) ?_
      show Steps p.tables e below (T5.setTop (mkF m 32 #[.val (.int p1), .val (.int (1 : Int32)), .val (.ref a_DATE), .unset] [])) _
      refine XS.iconst X5.here hx rfl (hb hby at_32) ?_
      show Steps p.tables e below (T5.setTop (mkF m 33 #[.val (.int p1), .val (.int (1 : Int32)), .val (.ref a_DATE), .unset] [(.int (1 : Int32))])) _
      refine XS.goto X5.here hx rfl (pc0 := 33) (pc' := 37) rfl (hb hby at_33) (by decide) (by decide) ?_
      show Steps p.tables e below (T5.setTop (mkF m 37 #[.val (.int p1), .val (.int (1 : Int32)), .val (.ref a_DATE), .unset] [(.int (1 : Int32))])) _
      refine XS.istoreN X5.here hx rfl (hb hby at_37) rfl (l' := #[.val (.int p1), .val (.int (1 : Int32)), .val (.ref a_DATE), .val (.int (1 : Int32))]) rfl ?_
      show Steps p.tables e below (T5.setTop (mkF m 38 #[.val (.int p1), .val (.int (1 : Int32)), .val (.ref a_DATE), .val (.int (1 : Int32))] [])) _
      refine XS.aloadN X5.here hx rfl (hb hby at_38) rfl rfl ?_
      show Steps p.tables e below (T5.setTop (mkF m 39 #[.val (.int p1), .val (.int (1 : Int32)), .val (.ref a_DATE), .val (.int (1 : Int32))] [(.ref a_DATE)])) _
      refine st6.trans ?_
      show Steps p.tables e below (T6.setTop (mkF m 42 #[.val (.int p1), .val (.int (1 : Int32)), .val (.ref a_DATE), .val (.int (1 : Int32))] [(.int (1 : Int32))])) _
      refine XS.iloadN X6.here hx rfl (hb hby at_42) rfl ?_
      show Steps p.tables e below (T6.setTop (mkF m 43 #[.val (.int p1), .val (.int (1 : Int32)), .val (.ref a_DATE), .val (.int (1 : Int32))] [(.int (1 : Int32)), (.int (1 : Int32))])) _
      refine XS.icmpNo X6.here hx rfl (hb hby at_43) rfl (teq ((by decide) : (1 : Int32) = (1 : Int32))).2 ?_
      show Steps p.tables e below (T6.setTop (mkF m 46 #[.val (.int p1), .val (.int (1 : Int32)), .val (.ref a_DATE), .val (.int (1 : Int32))] [])) _
      refine XS.iconst X6.here hx rfl (hb hby at_46) ?_
      show Steps p.tables e below (T6.setTop (mkF m 47 #[.val (.int p1), .val (.int (1 : Int32)), .val (.ref a_DATE), .val (.int (1 : Int32))] [(.int (1 : Int32))])) _
      refine XS.goto X6.here hx rfl (pc0 := 47) (pc' := 51) rfl (hb hby at_47) (by decide) (by decide) ?_
      exact k)
    obtain ⟨fs, hr, hrun, hended, hW, hsame⟩ := X6.leave (v := some (.int (nar .boolean (1 : Int32)))) (fun h => by rw [Bd.returns] at h; cases h)
    refine ⟨_, _, pre7 _ ?_, hrun, hended, _, _, rfl, ?_, ⟨_, rfl⟩, hW, hsame.mono (by decide) (by decide)⟩
    · show Steps p.tables e below (T6.setTop (mkF m 51 #[.val (.int p1), .val (.int (1 : Int32)), .val (.ref a_DATE), .val (.int (1 : Int32))] [(.int (1 : Int32))])) _
      exact retN X6 hx (t := .boolean) Bd.returns (by simp) (hb hby at_51) hr
    · show QL n0 _ T6.heap _
      rw [e6]
      exact ⟨rfl, N6⟩
  · subst hk
    obtain ⟨_, _, ⟨T8, L8, k8, n8⟩, -, X8, ⟨Lc8, hQ8, l8, y8, z8⟩, st8⟩ := Jvm.LawKit.callS X0 hx (y := (⟨"com/example/datewarden/datewarden/XmlSchemaTypeTakesDurationsPinLaw", "pick", "(I)Lcom/example/datewarden/datewarden/XmlSchemaType;"⟩ : MethodName)) hown (mvT hZ (hw _ (List.mem_of_getElem? (i := 1) rfl))) (mvT hZ (hw _ (List.mem_of_getElem? (i := 2) rfl))) (mvT hZ (hw _ (List.mem_of_getElem? (i := 3) rfl))) (mvT hZ (hw _ (List.mem_of_getElem? (i := 4) rfl))) (by decide) (backOf (W := 0) (rm1_2 l Z a0 hw []  a_DATE_TIME a_G_YEAR_MONTH a_DATE a_TIME a_G_YEAR a_G_MONTH a_DURATION a_G_DAY a_G_MONTH_DAY h0 n0 Z0 S_DATE_TIME E_DATE_TIME S_G_YEAR_MONTH E_G_YEAR_MONTH S_DATE E_DATE S_TIME E_TIME S_G_YEAR E_G_YEAR S_G_MONTH E_G_MONTH S_DURATION E_DURATION S_G_DAY E_G_DAY S_G_MONTH_DAY E_G_MONTH_DAY) hZ (hw _ (List.mem_of_getElem? (i := 4) rfl)) (hw _ (List.mem_of_getElem? (i := 3) rfl)) (by decide) (by decide)) (g := (mkF m 9 #[.val (.int p1), .val (.int (2 : Int32)), .unset, .unset] [(.int (2 : Int32))])) rfl (by rw [hml]; rfl) (argsL := [(.int (2 : Int32))]) (rest := []) (lenOf own_pd0 rfl) rfl (by show 2 * 0 + _ ≤ _; exact Nat.le_of_eq rfl) (hb hby at_9) (fun _ _ => ⟨rfl, e0, (by decide : 0 + 0 ≤ _), (by decide : 0 + 0 ≤ _)⟩)
    dsimp only [Pt.U, Pt.locs, Pt.cells, Pt.slots] at X8 l8 y8 z8 st8 hQ8
    subst l8 y8 z8
    obtain ⟨rfl, N8q, e8⟩ := hQ8
    have N8 := Fr.app N0 N8q
    obtain ⟨cq9, kq9, q9a, q9b, q9c⟩ := isOf hZ e8 E_TIME
    obtain ⟨_, _, ⟨T9, L9, k9, n9⟩, -, X9, ⟨Lc9, hQ9, l9, y9, z9⟩, st9⟩ := X8.virtualBack hx (y := (⟨"com/example/datewarden/datewarden/XmlSchemaType", "takesDurations", "()Z"⟩ : MethodName)) (z := (⟨"com/example/datewarden/datewarden/XmlSchemaType", "takesDurations", "()Z"⟩ : MethodName)) hown (mvT hZ (hw _ (List.mem_of_getElem? (i := 8) rfl))) (mvT hZ (hw _ (List.mem_of_getElem? (i := 9) rfl))) (notFace_of_selects (args := #[]) (mvT hZ (hw _ (List.mem_of_getElem? (i := 22) rfl)))) (mvT hZ (hw _ (List.mem_of_getElem? (i := 22) rfl))) (mvT hZ (hw _ (List.mem_of_getElem? (i := 10) rfl))) (by decide) (backOf (W := 0) (rm2_2 l Z a0 hw []  a_DATE_TIME a_G_YEAR_MONTH a_DATE a_TIME a_G_YEAR a_G_MONTH a_DURATION a_G_DAY a_G_MONTH_DAY h0 n0 Z0 S_DATE_TIME E_DATE_TIME S_G_YEAR_MONTH E_G_YEAR_MONTH S_DATE E_DATE S_TIME E_TIME S_G_YEAR E_G_YEAR S_G_MONTH E_G_MONTH S_DURATION E_DURATION S_G_DAY E_G_DAY S_G_MONTH_DAY E_G_MONTH_DAY) hZ (hw _ (List.mem_of_getElem? (i := 12) rfl)) (hw _ (List.mem_of_getElem? (i := 6) rfl)) (by decide) (by decide)) q9a q9c (g := (mkF m 39 #[.val (.int p1), .val (.int (2 : Int32)), .val (.ref a_TIME), .val (.int (0 : Int32))] [(.ref a_TIME)])) rfl (by rw [hml]; rfl) (Steps.refl _) (argsL := []) (rest := []) (lenOf own_pd1 rfl) rfl (by show 2 * 0 + _ ≤ _; exact Nat.le_of_eq rfl) (hb hby at_39) (fun _ _ => ⟨rfl, e8, (by decide : 0 + 0 ≤ _), (by decide : 0 + 0 ≤ _)⟩)
    dsimp only [Pt.U, Pt.locs, Pt.cells, Pt.slots] at X9 l9 y9 z9 st9 hQ9
    subst l9 y9 z9
    obtain ⟨rfl, N9q, e9⟩ := hQ9
    have N9 := Fr.app N8 N9q
    have pre10 : ∀ t, Steps p.tables e below (T9.setTop (mkF m 51 #[.val (.int p1), .val (.int (2 : Int32)), .val (.ref a_TIME), .val (.int (0 : Int32))] [(.int (1 : Int32))])) t → Steps p.tables e below (s₁.setTop (entryFrame m #[(.int p1)] maxLocals)) t := fun t k => pre1 t (by
      show Steps p.tables e below (s₁.setTop (mkF m 7 #[.val (.int p1), .unset, .unset, .unset] [(.int (2 : Int32))])) _
      refine XS.istoreN X0.here hx rfl (hb hby at_7) rfl (l' := #[.val (.int p1), .val (.int (2 : Int32)), .unset, .unset]) rfl ?_
      show Steps p.tables e below (s₁.setTop (mkF m 8 #[.val (.int p1), .val (.int (2 : Int32)), .unset, .unset] [])) _
      refine XS.iloadN X0.here hx rfl (hb hby at_8) rfl ?_
      show Steps p.tables e below (s₁.setTop (mkF m 9 #[.val (.int p1), .val (.int (2 : Int32)), .unset, .unset] [(.int (2 : Int32))])) _
      refine st8 _ ?_
      show Steps p.tables e below (T8.setTop (mkF m 12 #[.val (.int p1), .val (.int (2 : Int32)), .unset, .unset] [(.ref a_TIME)])) _
      refine XS.astoreN X8.here hx rfl (hb hby at_12) rfl rfl (l' := #[.val (.int p1), .val (.int (2 : Int32)), .val (.ref a_TIME), .unset]) rfl ?_
      show Steps p.tables e below (T8.setTop (mkF m 13 #[.val (.int p1), .val (.int (2 : Int32)), .val (.ref a_TIME), .unset] [])) _
      refine XS.iloadN X8.here hx rfl (hb hby at_13) rfl ?_
      show Steps p.tables e below (T8.setTop (mkF m 14 #[.val (.int p1), .val (.int (2 : Int32)), .val (.ref a_TIME), .unset] [(.int (2 : Int32))])) _
      refine XS.ifNo X8.here hx rfl (hb hby at_14) rfl ((if0 _ _).trans (feq ((by decide) : ¬ ((2 : Int32) = (0 : Int32)))).1) ?_
      show Steps p.tables e below (T8.setTop (mkF m 17 #[.val (.int p1), .val (.int (2 : Int32)), .val (.ref a_TIME), .unset] [])) _
      refine XS.iloadN X8.here hx rfl (hb hby at_17) rfl ?_
      show Steps p.tables e below (T8.setTop (mkF m 18 #[.val (.int p1), .val (.int (2 : Int32)), .val (.ref a_TIME), .unset] [(.int (2 : Int32))])) _
      refine XS.iconst X8.here hx rfl (hb hby at_18) ?_
      show Steps p.tables e below (T8.setTop (mkF m 19 #[.val (.int p1), .val (.int (2 : Int32)), .val (.ref a_TIME), .unset] [(.int (1 : Int32)), (.int (2 : Int32))])) _
      refine XS.icmpNo X8.here hx rfl (hb hby at_19) rfl (feq ((by decide) : ¬ ((2 : Int32) = (1 : Int32)))).1 ?_
      show Steps p.tables e below (T8.setTop (mkF m 22 #[.val (.int p1), .val (.int (2 : Int32)), .val (.ref a_TIME), .unset] [])) _
      refine XS.iloadN X8.here hx rfl (hb hby at_22) rfl ?_
      show Steps p.tables e below (T8.setTop (mkF m 23 #[.val (.int p1), .val (.int (2 : Int32)), .val (.ref a_TIME), .unset] [(.int (2 : Int32))])) _
      refine XS.iconst X8.here hx rfl (hb hby at_23) ?_
      show Steps p.tables e below (T8.setTop (mkF m 24 #[.val (.int p1), .val (.int (2 : Int32)), .val (.ref a_TIME), .unset] [(.int (3 : Int32)), (.int (2 : Int32))])) _
      refine XS.icmpNo X8.here hx rfl (hb hby at_24) rfl (feq ((by decide) : ¬ ((2 : Int32) = (3 : Int32)))).1 ?_
      show Steps p.tables e below (T8.setTop (mkF m 27 #[.val (.int p1), .val (.int (2 : Int32)), .val (.ref a_TIME), .unset] [])) _
      refine XS.iloadN X8.here hx rfl (hb hby at_27) rfl ?_
      show Steps p.tables e below (T8.setTop (mkF m 28 #[.val (.int p1), .val (.int (2 : Int32)), .val (.ref a_TIME), .unset] [(.int (2 : Int32))])) _
      refine XS.iconst X8.here hx rfl (hb hby at_28) ?_
      show Steps p.tables e below (T8.setTop (mkF m 29 #[.val (.int p1), .val (.int (2 : Int32)), .val (.ref a_TIME), .unset] [(.int (4 : Int32)), (.int (2 : Int32))])) _
      refine XS.icmpYes X8.here hx rfl (pc0 := 29) (pc' := 36) rfl (hb hby at_29) rfl (feq ((by decide) : ¬ ((2 : Int32) = (4 : Int32)))).2 (by decide) (by decide) ?_
      show Steps p.tables e below (T8.setTop (mkF m 36 #[.val (.int p1), .val (.int (2 : Int32)), .val (.ref a_TIME), .unset] [])) _
      refine XS.iconst X8.here hx rfl (hb hby at_36) ?_
      show Steps p.tables e below (T8.setTop (mkF m 37 #[.val (.int p1), .val (.int (2 : Int32)), .val (.ref a_TIME), .unset] [(.int (0 : Int32))])) _
      refine XS.istoreN X8.here hx rfl (hb hby at_37) rfl (l' := #[.val (.int p1), .val (.int (2 : Int32)), .val (.ref a_TIME), .val (.int (0 : Int32))]) rfl ?_
      show Steps p.tables e below (T8.setTop (mkF m 38 #[.val (.int p1), .val (.int (2 : Int32)), .val (.ref a_TIME), .val (.int (0 : Int32))] [])) _
      refine XS.aloadN X8.here hx rfl (hb hby at_38) rfl rfl ?_
      show Steps p.tables e below (T8.setTop (mkF m 39 #[.val (.int p1), .val (.int (2 : Int32)), .val (.ref a_TIME), .val (.int (0 : Int32))] [(.ref a_TIME)])) _
      refine st9.trans ?_
      show Steps p.tables e below (T9.setTop (mkF m 42 #[.val (.int p1), .val (.int (2 : Int32)), .val (.ref a_TIME), .val (.int (0 : Int32))] [(.int (0 : Int32))])) _
      refine XS.iloadN X9.here hx rfl (hb hby at_42) rfl ?_
      show Steps p.tables e below (T9.setTop (mkF m 43 #[.val (.int p1), .val (.int (2 : Int32)), .val (.ref a_TIME), .val (.int (0 : Int32))] [(.int (0 : Int32)), (.int (0 : Int32))])) _
      refine XS.icmpNo X9.here hx rfl (hb hby at_43) rfl (teq ((by decide) : (0 : Int32) = (0 : Int32))).2 ?_
      show Steps p.tables e below (T9.setTop (mkF m 46 #[.val (.int p1), .val (.int (2 : Int32)), .val (.ref a_TIME), .val (.int (0 : Int32))] [])) _
      refine XS.iconst X9.here hx rfl (hb hby at_46) ?_
      show Steps p.tables e below (T9.setTop (mkF m 47 #[.val (.int p1), .val (.int (2 : Int32)), .val (.ref a_TIME), .val (.int (0 : Int32))] [(.int (1 : Int32))])) _
      refine XS.goto X9.here hx rfl (pc0 := 47) (pc' := 51) rfl (hb hby at_47) (by decide) (by decide) ?_
      exact k)
    obtain ⟨fs, hr, hrun, hended, hW, hsame⟩ := X9.leave (v := some (.int (nar .boolean (1 : Int32)))) (fun h => by rw [Bd.returns] at h; cases h)
    refine ⟨_, _, pre10 _ ?_, hrun, hended, _, _, rfl, ?_, ⟨_, rfl⟩, hW, hsame.mono (by decide) (by decide)⟩
    · show Steps p.tables e below (T9.setTop (mkF m 51 #[.val (.int p1), .val (.int (2 : Int32)), .val (.ref a_TIME), .val (.int (0 : Int32))] [(.int (1 : Int32))])) _
      exact retN X9 hx (t := .boolean) Bd.returns (by simp) (hb hby at_51) hr
    · show QL n0 _ T9.heap _
      rw [e9]
      exact ⟨rfl, N9⟩
  · subst hk
    obtain ⟨_, _, ⟨T11, L11, k11, n11⟩, -, X11, ⟨Lc11, hQ11, l11, y11, z11⟩, st11⟩ := Jvm.LawKit.callS X0 hx (y := (⟨"com/example/datewarden/datewarden/XmlSchemaTypeTakesDurationsPinLaw", "pick", "(I)Lcom/example/datewarden/datewarden/XmlSchemaType;"⟩ : MethodName)) hown (mvT hZ (hw _ (List.mem_of_getElem? (i := 1) rfl))) (mvT hZ (hw _ (List.mem_of_getElem? (i := 2) rfl))) (mvT hZ (hw _ (List.mem_of_getElem? (i := 3) rfl))) (mvT hZ (hw _ (List.mem_of_getElem? (i := 4) rfl))) (by decide) (backOf (W := 0) (rm1_3 l Z a0 hw []  a_DATE_TIME a_G_YEAR_MONTH a_DATE a_TIME a_G_YEAR a_G_MONTH a_DURATION a_G_DAY a_G_MONTH_DAY h0 n0 Z0 S_DATE_TIME E_DATE_TIME S_G_YEAR_MONTH E_G_YEAR_MONTH S_DATE E_DATE S_TIME E_TIME S_G_YEAR E_G_YEAR S_G_MONTH E_G_MONTH S_DURATION E_DURATION S_G_DAY E_G_DAY S_G_MONTH_DAY E_G_MONTH_DAY) hZ (hw _ (List.mem_of_getElem? (i := 4) rfl)) (hw _ (List.mem_of_getElem? (i := 3) rfl)) (by decide) (by decide)) (g := (mkF m 9 #[.val (.int p1), .val (.int (3 : Int32)), .unset, .unset] [(.int (3 : Int32))])) rfl (by rw [hml]; rfl) (argsL := [(.int (3 : Int32))]) (rest := []) (lenOf own_pd0 rfl) rfl (by show 2 * 0 + _ ≤ _; exact Nat.le_of_eq rfl) (hb hby at_9) (fun _ _ => ⟨rfl, e0, (by decide : 0 + 0 ≤ _), (by decide : 0 + 0 ≤ _)⟩)
    dsimp only [Pt.U, Pt.locs, Pt.cells, Pt.slots] at X11 l11 y11 z11 st11 hQ11
    subst l11 y11 z11
    obtain ⟨rfl, N11q, e11⟩ := hQ11
    have N11 := Fr.app N0 N11q
    obtain ⟨cq12, kq12, q12a, q12b, q12c⟩ := isOf hZ e11 E_G_YEAR_MONTH
    obtain ⟨_, _, ⟨T12, L12, k12, n12⟩, -, X12, ⟨Lc12, hQ12, l12, y12, z12⟩, st12⟩ := X11.virtualBack hx (y := (⟨"com/example/datewarden/datewarden/XmlSchemaType", "takesDurations", "()Z"⟩ : MethodName)) (z := (⟨"com/example/datewarden/datewarden/XmlSchemaType", "takesDurations", "()Z"⟩ : MethodName)) hown (mvT hZ (hw _ (List.mem_of_getElem? (i := 8) rfl))) (mvT hZ (hw _ (List.mem_of_getElem? (i := 9) rfl))) (notFace_of_selects (args := #[]) (mvT hZ (hw _ (List.mem_of_getElem? (i := 16) rfl)))) (mvT hZ (hw _ (List.mem_of_getElem? (i := 16) rfl))) (mvT hZ (hw _ (List.mem_of_getElem? (i := 10) rfl))) (by decide) (backOf (W := 0) (rm2_3 l Z a0 hw []  a_DATE_TIME a_G_YEAR_MONTH a_DATE a_TIME a_G_YEAR a_G_MONTH a_DURATION a_G_DAY a_G_MONTH_DAY h0 n0 Z0 S_DATE_TIME E_DATE_TIME S_G_YEAR_MONTH E_G_YEAR_MONTH S_DATE E_DATE S_TIME E_TIME S_G_YEAR E_G_YEAR S_G_MONTH E_G_MONTH S_DURATION E_DURATION S_G_DAY E_G_DAY S_G_MONTH_DAY E_G_MONTH_DAY) hZ (hw _ (List.mem_of_getElem? (i := 12) rfl)) (hw _ (List.mem_of_getElem? (i := 6) rfl)) (by decide) (by decide)) q12a q12c (g := (mkF m 39 #[.val (.int p1), .val (.int (3 : Int32)), .val (.ref a_G_YEAR_MONTH), .val (.int (1 : Int32))] [(.ref a_G_YEAR_MONTH)])) rfl (by rw [hml]; rfl) (Steps.refl _) (argsL := []) (rest := []) (lenOf own_pd1 rfl) rfl (by show 2 * 0 + _ ≤ _; exact Nat.le_of_eq rfl) (hb hby at_39) (fun _ _ => ⟨rfl, e11, (by decide : 0 + 0 ≤ _), (by decide : 0 + 0 ≤ _)⟩)
    dsimp only [Pt.U, Pt.locs, Pt.cells, Pt.slots] at X12 l12 y12 z12 st12 hQ12
    subst l12 y12 z12
    obtain ⟨rfl, N12q, e12⟩ := hQ12
    have N12 := Fr.app N11 N12q
    have pre13 : ∀ t, Steps p.tables e below (T12.setTop (mkF m 51 #[.val (.int p1), .val (.int (3 : Int32)), .val (.ref a_G_YEAR_MONTH), .val (.int (1 : Int32))] [(.int (1 : Int32))])) t → Steps p.tables e below (s₁.setTop (entryFrame m #[(.int p1)] maxLocals)) t := fun t k => pre1 t (by
      show Steps p.tables e below (s₁.setTop (mkF m 7 #[.val (.int p1), .unset, .unset, .unset] [(.int (3 : Int32))])) _
      refine XS.istoreN X0.here hx rfl (hb hby at_7) rfl (l' := #[.val (.int p1), .val (.int (3 : Int32)), .unset, .unset]) rfl ?_
      show Steps p.tables e below (s₁.setTop (mkF m 8 #[.val (.int p1), .val (.int (3 : Int32)), .unset, .unset] [])) _
      refine XS.iloadN X0.here hx rfl (hb hby at_8) rfl ?_
      show Steps p.tables e below (s₁.setTop (mkF m 9 #[.val (.int p1), .val (.int (3 : Int32)), .unset, .unset] [(.int (3 : Int32))])) _
      refine st11 _ ?_
      show Steps p.tables e below (T11.setTop (mkF m 12 #[.val (.int p1), .val (.int (3 : Int32)), .unset, .unset] [(.ref a_G_YEAR_MONTH)])) _
      refine XS.astoreN X11.here hx rfl (hb hby at_12) rfl rfl (l' := #[.val (.int p1), .val (.int (3 : Int32)), .val (.ref a_G_YEAR_MONTH), .unset]) rfl ?_
      show Steps p.tables e below (T11.setTop (mkF m 13 #[.val (.int p1), .val (.int (3 : Int32)), .val (.ref a_G_YEAR_MONTH), .unset] [])) _
      refine XS.iloadN X11.here hx rfl (hb hby at_13) rfl ?_
      show Steps p.tables e below (T11.setTop (mkF m 14 #[.val (.int p1), .val (.int (3 : Int32)), .val (.ref a_G_YEAR_MONTH), .unset] [(.int (3 : Int32))])) _
      refine XS.ifNo X11.here hx rfl (hb hby at_14) rfl ((if0 _ _).trans (feq ((by decide) : ¬ ((3 : Int32) = (0 : Int32)))).1) ?_
      show Steps p.tables e below (T11.setTop (mkF m 17 #[.val (.int p1), .val (.int (3 : Int32)), .val (.ref a_G_YEAR_MONTH), .unset] [])) _
      refine XS.iloadN X11.here hx rfl (hb hby at_17) rfl ?_
      show Steps p.tables e below (T11.setTop (mkF m 18 #[.val (.int p1), .val (.int (3 : Int32)), .val (.ref a_G_YEAR_MONTH), .unset] [(.int (3 : Int32))])) _
      refine XS.iconst X11.here hx rfl (hb hby at_18) ?_
      show Steps p.tables e below (T11.setTop (mkF m 19 #[.val (.int p1), .val (.int (3 : Int32)), .val (.ref a_G_YEAR_MONTH), .unset] [(.int (1 : Int32)), (.int (3 : Int32))])) _
      refine XS.icmpNo X11.here hx rfl (hb hby at_19) rfl (feq ((by decide) : ¬ ((3 : Int32) = (1 : Int32)))).1 ?_
      show Steps p.tables e below (T11.setTop (mkF m 22 #[.val (.int p1), .val (.int (3 : Int32)), .val (.ref a_G_YEAR_MONTH), .unset] [])) _
      refine XS.iloadN X11.here hx rfl (hb hby at_22) rfl ?_
      show Steps p.tables e below (T11.setTop (mkF m 23 #[.val (.int p1), .val (.int (3 : Int32)), .val (.ref a_G_YEAR_MONTH), .unset] [(.int (3 : Int32))])) _
      refine XS.iconst X11.here hx rfl (hb hby at_23) ?_
      show Steps p.tables e below (T11.setTop (mkF m 24 #[.val (.int p1), .val (.int (3 : Int32)), .val (.ref a_G_YEAR_MONTH), .unset] [(.int (3 : Int32)), (.int (3 : Int32))])) _
      refine XS.icmpYes X11.here hx rfl (pc0 := 24) (pc' := 32) rfl (hb hby at_24) rfl (teq ((by decide) : (3 : Int32) = (3 : Int32))).1 (by decide) (by decide) ?_
      show Steps p.tables e below (T11.setTop (mkF m 32 #[.val (.int p1), .val (.int (3 : Int32)), .val (.ref a_G_YEAR_MONTH), .unset] [])) _
      refine XS.iconst X11.here hx rfl (hb hby at_32) ?_
      show Steps p.tables e below (T11.setTop (mkF m 33 #[.val (.int p1), .val (.int (3 : Int32)), .val (.ref a_G_YEAR_MONTH), .unset] [(.int (1 : Int32))])) _
      refine XS.goto X11.here hx rfl (pc0 := 33) (pc' := 37) rfl (hb hby at_33) (by decide) (by decide) ?_
      show Steps p.tables e below (T11.setTop (mkF m 37 #[.val (.int p1), .val (.int (3 : Int32)), .val (.ref a_G_YEAR_MONTH), .unset] [(.int (1 : Int32))])) _
      refine XS.istoreN X11.here hx rfl (hb hby at_37) rfl (l' := #[.val (.int p1), .val (.int (3 : Int32)), .val (.ref a_G_YEAR_MONTH), .val (.int (1 : Int32))]) rfl ?_
      show Steps p.tables e below (T11.setTop (mkF m 38 #[.val (.int p1), .val (.int (3 : Int32)), .val (.ref a_G_YEAR_MONTH), .val (.int (1 : Int32))] [])) _
      refine XS.aloadN X11.here hx rfl (hb hby at_38) rfl rfl ?_
      show Steps p.tables e below (T11.setTop (mkF m 39 #[.val (.int p1), .val (.int (3 : Int32)), .val (.ref a_G_YEAR_MONTH), .val (.int (1 : Int32))] [(.ref a_G_YEAR_MONTH)])) _
      refine st12.trans ?_
      show Steps p.tables e below (T12.setTop (mkF m 42 #[.val (.int p1), .val (.int (3 : Int32)), .val (.ref a_G_YEAR_MONTH), .val (.int (1 : Int32))] [(.int (1 : Int32))])) _
      refine XS.iloadN X12.here hx rfl (hb hby at_42) rfl ?_
      show Steps p.tables e below (T12.setTop (mkF m 43 #[.val (.int p1), .val (.int (3 : Int32)), .val (.ref a_G_YEAR_MONTH), .val (.int (1 : Int32))] [(.int (1 : Int32)), (.int (1 : Int32))])) _
      refine XS.icmpNo X12.here hx rfl (hb hby at_43) rfl (teq ((by decide) : (1 : Int32) = (1 : Int32))).2 ?_
      show Steps p.tables e below (T12.setTop (mkF m 46 #[.val (.int p1), .val (.int (3 : Int32)), .val (.ref a_G_YEAR_MONTH), .val (.int (1 : Int32))] [])) _
      refine XS.iconst X12.here hx rfl (hb hby at_46) ?_
      show Steps p.tables e below (T12.setTop (mkF m 47 #[.val (.int p1), .val (.int (3 : Int32)), .val (.ref a_G_YEAR_MONTH), .val (.int (1 : Int32))] [(.int (1 : Int32))])) _
      refine XS.goto X12.here hx rfl (pc0 := 47) (pc' := 51) rfl (hb hby at_47) (by decide) (by decide) ?_
      exact k)
    obtain ⟨fs, hr, hrun, hended, hW, hsame⟩ := X12.leave (v := some (.int (nar .boolean (1 : Int32)))) (fun h => by rw [Bd.returns] at h; cases h)
    refine ⟨_, _, pre13 _ ?_, hrun, hended, _, _, rfl, ?_, ⟨_, rfl⟩, hW, hsame.mono (by decide) (by decide)⟩
    · show Steps p.tables e below (T12.setTop (mkF m 51 #[.val (.int p1), .val (.int (3 : Int32)), .val (.ref a_G_YEAR_MONTH), .val (.int (1 : Int32))] [(.int (1 : Int32))])) _
      exact retN X12 hx (t := .boolean) Bd.returns (by simp) (hb hby at_51) hr
    · show QL n0 _ T12.heap _
      rw [e12]
      exact ⟨rfl, N12⟩
  · subst hk
    obtain ⟨_, _, ⟨T14, L14, k14, n14⟩, -, X14, ⟨Lc14, hQ14, l14, y14, z14⟩, st14⟩ := Jvm.LawKit.callS X0 hx (y := (⟨"com/example/datewarden/datewarden/XmlSchemaTypeTakesDurationsPinLaw", "pick", "(I)Lcom/example/datewarden/datewarden/XmlSchemaType;"⟩ : MethodName)) hown (mvT hZ (hw _ (List.mem_of_getElem? (i := 1) rfl))) (mvT hZ (hw _ (List.mem_of_getElem? (i := 2) rfl))) (mvT hZ (hw _ (List.mem_of_getElem? (i := 3) rfl))) (mvT hZ (hw _ (List.mem_of_getElem? (i := 4) rfl))) (by decide) (backOf (W := 0) (rm1_4 l Z a0 hw []  a_DATE_TIME a_G_YEAR_MONTH a_DATE a_TIME a_G_YEAR a_G_MONTH a_DURATION a_G_DAY a_G_MONTH_DAY h0 n0 Z0 S_DATE_TIME E_DATE_TIME S_G_YEAR_MONTH E_G_YEAR_MONTH S_DATE E_DATE S_TIME E_TIME S_G_YEAR E_G_YEAR S_G_MONTH E_G_MONTH S_DURATION E_DURATION S_G_DAY E_G_DAY S_G_MONTH_DAY E_G_MONTH_DAY) hZ (hw _ (List.mem_of_getElem? (i := 4) rfl)) (hw _ (List.mem_of_getElem? (i := 3) rfl)) (by decide) (by decide)) (g := (mkF m 9 #[.val (.int p1), .val (.int (4 : Int32)), .unset, .unset] [(.int (4 : Int32))])) rfl (by rw [hml]; rfl) (argsL := [(.int (4 : Int32))]) (rest := []) (lenOf own_pd0 rfl) rfl (by show 2 * 0 + _ ≤ _; exact Nat.le_of_eq rfl) (hb hby at_9) (fun _ _ => ⟨rfl, e0, (by decide : 0 + 0 ≤ _), (by decide : 0 + 0 ≤ _)⟩)
    dsimp only [Pt.U, Pt.locs, Pt.cells, Pt.slots] at X14 l14 y14 z14 st14 hQ14
    subst l14 y14 z14
    obtain ⟨rfl, N14q, e14⟩ := hQ14
    have N14 := Fr.app N0 N14q
    obtain ⟨cq15, kq15, q15a, q15b, q15c⟩ := isOf hZ e14 E_G_YEAR
    obtain ⟨_, _, ⟨T15, L15, k15, n15⟩, -, X15, ⟨Lc15, hQ15, l15, y15, z15⟩, st15⟩ := X14.virtualBack hx (y := (⟨"com/example/datewarden/datewarden/XmlSchemaType", "takesDurations", "()Z"⟩ : MethodName)) (z := (⟨"com/example/datewarden/datewarden/XmlSchemaType", "takesDurations", "()Z"⟩ : MethodName)) hown (mvT hZ (hw _ (List.mem_of_getElem? (i := 8) rfl))) (mvT hZ (hw _ (List.mem_of_getElem? (i := 9) rfl))) (notFace_of_selects (args := #[]) (mvT hZ (hw _ (List.mem_of_getElem? (i := 31) rfl)))) (mvT hZ (hw _ (List.mem_of_getElem? (i := 31) rfl))) (mvT hZ (hw _ (List.mem_of_getElem? (i := 10) rfl))) (by decide) (backOf (W := 0) (rm2_4 l Z a0 hw []  a_DATE_TIME a_G_YEAR_MONTH a_DATE a_TIME a_G_YEAR a_G_MONTH a_DURATION a_G_DAY a_G_MONTH_DAY h0 n0 Z0 S_DATE_TIME E_DATE_TIME S_G_YEAR_MONTH E_G_YEAR_MONTH S_DATE E_DATE S_TIME E_TIME S_G_YEAR E_G_YEAR S_G_MONTH E_G_MONTH S_DURATION E_DURATION S_G_DAY E_G_DAY S_G_MONTH_DAY E_G_MONTH_DAY) hZ (hw _ (List.mem_of_getElem? (i := 12) rfl)) (hw _ (List.mem_of_getElem? (i := 6) rfl)) (by decide) (by decide)) q15a q15c (g := (mkF m 39 #[.val (.int p1), .val (.int (4 : Int32)), .val (.ref a_G_YEAR), .val (.int (1 : Int32))] [(.ref a_G_YEAR)])) rfl (by rw [hml]; rfl) (Steps.refl _) (argsL := []) (rest := []) (lenOf own_pd1 rfl) rfl (by show 2 * 0 + _ ≤ _; exact Nat.le_of_eq rfl) (hb hby at_39) (fun _ _ => ⟨rfl, e14, (by decide : 0 + 0 ≤ _), (by decide : 0 + 0 ≤ _)⟩)
    dsimp only [Pt.U, Pt.locs, Pt.cells, Pt.slots] at X15 l15 y15 z15 st15 hQ15
    subst l15 y15 z15
    obtain ⟨rfl, N15q, e15⟩ := hQ15
    have N15 := Fr.app N14 N15q
    have pre16 : ∀ t, Steps p.tables e below (T15.setTop (mkF m 51 #[.val (.int p1), .val (.int (4 : Int32)), .val (.ref a_G_YEAR), .val (.int (1 : Int32))] [(.int (1 : Int32))])) t → Steps p.tables e below (s₁.setTop (entryFrame m #[(.int p1)] maxLocals)) t := fun t k => pre1 t (by
      show Steps p.tables e below (s₁.setTop (mkF m 7 #[.val (.int p1), .unset, .unset, .unset] [(.int (4 : Int32))])) _
      refine XS.istoreN X0.here hx rfl (hb hby at_7) rfl (l' := #[.val (.int p1), .val (.int (4 : Int32)), .unset, .unset]) rfl ?_
      show Steps p.tables e below (s₁.setTop (mkF m 8 #[.val (.int p1), .val (.int (4 : Int32)), .unset, .unset] [])) _
      refine XS.iloadN X0.here hx rfl (hb hby at_8) rfl ?_
      show Steps p.tables e below (s₁.setTop (mkF m 9 #[.val (.int p1), .val (.int (4 : Int32)), .unset, .unset] [(.int (4 : Int32))])) _
      refine st14 _ ?_
      show Steps p.tables e below (T14.setTop (mkF m 12 #[.val (.int p1), .val (.int (4 : Int32)), .unset, .unset] [(.ref a_G_YEAR)])) _
      refine XS.astoreN X14.here hx rfl (hb hby at_12) rfl rfl (l' := #[.val (.int p1), .val (.int (4 : Int32)), .val (.ref a_G_YEAR), .unset]) rfl ?_
      show Steps p.tables e below (T14.setTop (mkF m 13 #[.val (.int p1), .val (.int (4 : Int32)), .val (.ref a_G_YEAR), .unset] [])) _
      refine XS.iloadN X14.here hx rfl (hb hby at_13) rfl ?_
      show Steps p.tables e below (T14.setTop (mkF m 14 #[.val (.int p1), .val (.int (4 : Int32)), .val (.ref a_G_YEAR), .unset] [(.int (4 : Int32))])) _
      refine XS.ifNo X14.here hx rfl (hb hby at_14) rfl ((if0 _ _).trans (feq ((by decide) : ¬ ((4 : Int32) = (0 : Int32)))).1) ?_
      show Steps p.tables e below (T14.setTop (mkF m 17 #[.val (.int p1), .val (.int (4 : Int32)), .val (.ref a_G_YEAR), .unset] [])) _
      refine XS.iloadN X14.here hx rfl (hb hby at_17) rfl ?_
      show Steps p.tables e below (T14.setTop (mkF m 18 #[.val (.int p1), .val (.int (4 : Int32)), .val (.ref a_G_YEAR), .unset] [(.int (4 : Int32))])) _
      refine XS.iconst X14.here hx rfl (hb hby at_18) ?_
      show Steps p.tables e below (T14.setTop (mkF m 19 #[.val (.int p1), .val (.int (4 : Int32)), .val (.ref a_G_YEAR), .unset] [(.int (1 : Int32)), (.int (4 : Int32))])) _
      refine XS.icmpNo X14.here hx rfl (hb hby at_19) rfl (feq ((by decide) : ¬ ((4 : Int32) = (1 : Int32)))).1 ?_
      show Steps p.tables e below (T14.setTop (mkF m 22 #[.val (.int p1), .val (.int (4 : Int32)), .val (.ref a_G_YEAR), .unset] [])) _
      refine XS.iloadN X14.here hx rfl (hb hby at_22) rfl ?_
      show Steps p.tables e below (T14.setTop (mkF m 23 #[.val (.int p1), .val (.int (4 : Int32)), .val (.ref a_G_YEAR), .unset] [(.int (4 : Int32))])) _
      refine XS.iconst X14.here hx rfl (hb hby at_23) ?_
      show Steps p.tables e below (T14.setTop (mkF m 24 #[.val (.int p1), .val (.int (4 : Int32)), .val (.ref a_G_YEAR), .unset] [(.int (3 : Int32)), (.int (4 : Int32))])) _
      refine XS.icmpNo X14.here hx rfl (hb hby at_24) rfl (feq ((by decide) : ¬ ((4 : Int32) = (3 : Int32)))).1 ?_
      show Steps p.tables e below (T14.setTop (mkF m 27 #[.val (.int p1), .val (.int (4 : Int32)), .val (.ref a_G_YEAR), .unset] [])) _
      refine XS.iloadN X14.here hx rfl (hb hby at_27) rfl ?_
      show Steps p.tables e below (T14.setTop (mkF m 28 #[.val (.int p1), .val (.int (4 : Int32)), .val (.ref a_G_YEAR), .unset] [(.int (4 : Int32))])) _
      refine XS.iconst X14.here hx rfl (hb hby at_28) ?_
      show Steps p.tables e below (T14.setTop (mkF m 29 #[.val (.int p1), .val (.int (4 : Int32)), .val (.ref a_G_YEAR), .unset] [(.int (4 : Int32)), (.int (4 : Int32))])) _
      refine XS.icmpNo X14.here hx rfl (hb hby at_29) rfl (teq ((by decide) : (4 : Int32) = (4 : Int32))).2 ?_
      show Steps p.tables e below (T14.setTop (mkF m 32 #[.val (.int p1), .val (.int (4 : Int32)), .val (.ref a_G_YEAR), .unset] [])) _
      refine XS.iconst X14.here hx rfl (hb hby at_32) ?_
      show Steps p.tables e below (T14.setTop (mkF m 33 #[.val (.int p1), .val (.int (4 : Int32)), .val (.ref a_G_YEAR), .unset] [(.int (1 : Int32))])) _
      refine XS.goto X14.here hx rfl (pc0 := 33) (pc' := 37) rfl (hb hby at_33) (by decide) (by decide) ?_
      show Steps p.tables e below (T14.setTop (mkF m 37 #[.val (.int p1), .val (.int (4 : Int32)), .val (.ref a_G_YEAR), .unset] [(.int (1 : Int32))])) _
      refine XS.istoreN X14.here hx rfl (hb hby at_37) rfl (l' := #[.val (.int p1), .val (.int (4 : Int32)), .val (.ref a_G_YEAR), .val (.int (1 : Int32))]) rfl ?_
      show Steps p.tables e below (T14.setTop (mkF m 38 #[.val (.int p1), .val (.int (4 : Int32)), .val (.ref a_G_YEAR), .val (.int (1 : Int32))] [])) _
      refine XS.aloadN X14.here hx rfl (hb hby at_38) rfl rfl ?_
      show Steps p.tables e below (T14.setTop (mkF m 39 #[.val (.int p1), .val (.int (4 : Int32)), .val (.ref a_G_YEAR), .val (.int (1 : Int32))] [(.ref a_G_YEAR)])) _
      refine st15.trans ?_
      show Steps p.tables e below (T15.setTop (mkF m 42 #[.val (.int p1), .val (.int (4 : Int32)), .val (.ref a_G_YEAR), .val (.int (1 : Int32))] [(.int (1 : Int32))])) _
      refine XS.iloadN X15.here hx rfl (hb hby at_42) rfl ?_
      show Steps p.tables e below (T15.setTop (mkF m 43 #[.val (.int p1), .val (.int (4 : Int32)), .val (.ref a_G_YEAR), .val (.int (1 : Int32))] [(.int (1 : Int32)), (.int (1 : Int32))])) _
      refine XS.icmpNo X15.here hx rfl (hb hby at_43) rfl (teq ((by decide) : (1 : Int32) = (1 : Int32))).2 ?_
      show Steps p.tables e below (T15.setTop (mkF m 46 #[.val (.int p1), .val (.int (4 : Int32)), .val (.ref a_G_YEAR), .val (.int (1 : Int32))] [])) _
      refine XS.iconst X15.here hx rfl (hb hby at_46) ?_
      show Steps p.tables e below (T15.setTop (mkF m 47 #[.val (.int p1), .val (.int (4 : Int32)), .val (.ref a_G_YEAR), .val (.int (1 : Int32))] [(.int (1 : Int32))])) _
      refine XS.goto X15.here hx rfl (pc0 := 47) (pc' := 51) rfl (hb hby at_47) (by decide) (by decide) ?_
      exact k)
    obtain ⟨fs, hr, hrun, hended, hW, hsame⟩ := X15.leave (v := some (.int (nar .boolean (1 : Int32)))) (fun h => by rw [Bd.returns] at h; cases h)
    refine ⟨_, _, pre16 _ ?_, hrun, hended, _, _, rfl, ?_, ⟨_, rfl⟩, hW, hsame.mono (by decide) (by decide)⟩
    · show Steps p.tables e below (T15.setTop (mkF m 51 #[.val (.int p1), .val (.int (4 : Int32)), .val (.ref a_G_YEAR), .val (.int (1 : Int32))] [(.int (1 : Int32))])) _
      exact retN X15 hx (t := .boolean) Bd.returns (by simp) (hb hby at_51) hr
    · show QL n0 _ T15.heap _
      rw [e15]
      exact ⟨rfl, N15⟩
  · subst hk
    obtain ⟨_, _, ⟨T17, L17, k17, n17⟩, -, X17, ⟨Lc17, hQ17, l17, y17, z17⟩, st17⟩ := Jvm.LawKit.callS X0 hx (y := (⟨"com/example/datewarden/datewarden/XmlSchemaTypeTakesDurationsPinLaw", "pick", "(I)Lcom/example/datewarden/datewarden/XmlSchemaType;"⟩ : MethodName)) hown (mvT hZ (hw _ (List.mem_of_getElem? (i := 1) rfl))) (mvT hZ (hw _ (List.mem_of_getElem? (i := 2) rfl))) (mvT hZ (hw _ (List.mem_of_getElem? (i := 3) rfl))) (mvT hZ (hw _ (List.mem_of_getElem? (i := 4) rfl))) (by decide) (backOf (W := 0) (rm1_5 l Z a0 hw []  a_DATE_TIME a_G_YEAR_MONTH a_DATE a_TIME a_G_YEAR a_G_MONTH a_DURATION a_G_DAY a_G_MONTH_DAY h0 n0 Z0 S_DATE_TIME E_DATE_TIME S_G_YEAR_MONTH E_G_YEAR_MONTH S_DATE E_DATE S_TIME E_TIME S_G_YEAR E_G_YEAR S_G_MONTH E_G_MONTH S_DURATION E_DURATION S_G_DAY E_G_DAY S_G_MONTH_DAY E_G_MONTH_DAY) hZ (hw _ (List.mem_of_getElem? (i := 4) rfl)) (hw _ (List.mem_of_getElem? (i := 3) rfl)) (by decide) (by decide)) (g := (mkF m 9 #[.val (.int p1), .val (.int (5 : Int32)), .unset, .unset] [(.int (5 : Int32))])) rfl (by rw [hml]; rfl) (argsL := [(.int (5 : Int32))]) (rest := []) (lenOf own_pd0 rfl) rfl (by show 2 * 0 + _ ≤ _; exact Nat.le_of_eq rfl) (hb hby at_9) (fun _ _ => ⟨rfl, e0, (by decide : 0 + 0 ≤ _), (by decide : 0 + 0 ≤ _)⟩)
    dsimp only [Pt.U, Pt.locs, Pt.cells, Pt.slots] at X17 l17 y17 z17 st17 hQ17
    subst l17 y17 z17
    obtain ⟨rfl, N17q, e17⟩ := hQ17
    have N17 := Fr.app N0 N17q
    obtain ⟨cq18, kq18, q18a, q18b, q18c⟩ := isOf hZ e17 E_G_MONTH_DAY
    obtain ⟨_, _, ⟨T18, L18, k18, n18⟩, -, X18, ⟨Lc18, hQ18, l18, y18, z18⟩, st18⟩ := X17.virtualBack hx (y := (⟨"com/example/datewarden/datewarden/XmlSchemaType", "takesDurations", "()Z"⟩ : MethodName)) (z := (⟨"com/example/datewarden/datewarden/XmlSchemaType", "takesDurations", "()Z"⟩ : MethodName)) hown (mvT hZ (hw _ (List.mem_of_getElem? (i := 8) rfl))) (mvT hZ (hw _ (List.mem_of_getElem? (i := 9) rfl))) (notFace_of_selects (args := #[]) (mvT hZ (hw _ (List.mem_of_getElem? (i := 40) rfl)))) (mvT hZ (hw _ (List.mem_of_getElem? (i := 40) rfl))) (mvT hZ (hw _ (List.mem_of_getElem? (i := 10) rfl))) (by decide) (backOf (W := 0) (rm2_5 l Z a0 hw []  a_DATE_TIME a_G_YEAR_MONTH a_DATE a_TIME a_G_YEAR a_G_MONTH a_DURATION a_G_DAY a_G_MONTH_DAY h0 n0 Z0 S_DATE_TIME E_DATE_TIME S_G_YEAR_MONTH E_G_YEAR_MONTH S_DATE E_DATE S_TIME E_TIME S_G_YEAR E_G_YEAR S_G_MONTH E_G_MONTH S_DURATION E_DURATION S_G_DAY E_G_DAY S_G_MONTH_DAY E_G_MONTH_DAY) hZ (hw _ (List.mem_of_getElem? (i := 12) rfl)) (hw _ (List.mem_of_getElem? (i := 6) rfl)) (by decide) (by decide)) q18a q18c (g := (mkF m 39 #[.val (.int p1), .val (.int (5 : Int32)), .val (.ref a_G_MONTH_DAY), .val (.int (0 : Int32))] [(.ref a_G_MONTH_DAY)])) rfl (by rw [hml]; rfl) (Steps.refl _) (argsL := []) (rest := []) (lenOf own_pd1 rfl) rfl (by show 2 * 0 + _ ≤ _; exact Nat.le_of_eq rfl) (hb hby at_39) (fun _ _ => ⟨rfl, e17, (by decide : 0 + 0 ≤ _), (by decide : 0 + 0 ≤ _)⟩)
    dsimp only [Pt.U, Pt.locs, Pt.cells, Pt.slots] at X18 l18 y18 z18 st18 hQ18
    subst l18 y18 z18
    obtain ⟨rfl, N18q, e18⟩ := hQ18
    have N18 := Fr.app N17 N18q
    have pre19 : ∀ t, Steps p.tables e below (T18.setTop (mkF m 51 #[.val (.int p1), .val (.int (5 : Int32)), .val (.ref a_G_MONTH_DAY), .val (.int (0 : Int32))] [(.int (1 : Int32))])) t → Steps p.tables e below (s₁.setTop (entryFrame m #[(.int p1)] maxLocals)) t := fun t k => pre1 t (by
      show Steps p.tables e below (s₁.setTop (mkF m 7 #[.val (.int p1), .unset, .unset, .unset] [(.int (5 : Int32))])) _
      refine XS.istoreN X0.here hx rfl (hb hby at_7) rfl (l' := #[.val (.int p1), .val (.int (5 : Int32)), .unset, .unset]) rfl ?_
      show Steps p.tables e below (s₁.setTop (mkF m 8 #[.val (.int p1), .val (.int (5 : Int32)), .unset, .unset] [])) _
      refine XS.iloadN X0.here hx rfl (hb hby at_8) rfl ?_
      show Steps p.tables e below (s₁.setTop (mkF m 9 #[.val (.int p1), .val (.int (5 : Int32)), .unset, .unset] [(.int (5 : Int32))])) _
      refine st17 _ ?_
      show Steps p.tables e below (T17.setTop (mkF m 12 #[.val (.int p1), .val (.int (5 : Int32)), .unset, .unset] [(.ref a_G_MONTH_DAY)])) _
      refine XS.astoreN X17.here hx rfl (hb hby at_12) rfl rfl (l' := #[.val (.int p1), .val (.int (5 : Int32)), .val (.ref a_G_MONTH_DAY), .unset]) rfl ?_
      show Steps p.tables e below (T17.setTop (mkF m 13 #[.val (.int p1), .val (.int (5 : Int32)), .val (.ref a_G_MONTH_DAY), .unset] [])) _
      refine XS.iloadN X17.here hx rfl (hb hby at_13) rfl ?_
      show Steps p.tables e below (T17.setTop (mkF m 14 #[.val (.int p1), .val (.int (5 : Int32)), .val (.ref a_G_MONTH_DAY), .unset] [(.int (5 : Int32))])) _
      refine XS.ifNo X17.here hx rfl (hb hby at_14) rfl ((if0 _ _).trans (feq ((by decide) : ¬ ((5 : Int32) = (0 : Int32)))).1) ?_
      show Steps p.tables e below (T17.setTop (mkF m 17 #[.val (.int p1), .val (.int (5 : Int32)), .val (.ref a_G_MONTH_DAY), .unset] [])) _
      refine XS.iloadN X17.here hx rfl (hb hby at_17) rfl ?_
      show Steps p.tables e below (T17.setTop (mkF m 18 #[.val (.int p1), .val (.int (5 : Int32)), .val (.ref a_G_MONTH_DAY), .unset] [(.int (5 : Int32))])) _
      refine XS.iconst X17.here hx rfl (hb hby at_18) ?_
      show Steps p.tables e below (T17.setTop (mkF m 19 #[.val (.int p1), .val (.int (5 : Int32)), .val (.ref a_G_MONTH_DAY), .unset] [(.int (1 : Int32)), (.int (5 : Int32))])) _
      refine XS.icmpNo X17.here hx rfl (hb hby at_19) rfl (feq ((by decide) : ¬ ((5 : Int32) = (1 : Int32)))).1 ?_
      show Steps p.tables e below (T17.setTop (mkF m 22 #[.val (.int p1), .val (.int (5 : Int32)), .val (.ref a_G_MONTH_DAY), .unset] [])) _
      refine XS.iloadN X17.here hx rfl (hb hby at_22) rfl ?_
      show Steps p.tables e below (T17.setTop (mkF m 23 #[.val (.int p1), .val (.int (5 : Int32)), .val (.ref a_G_MONTH_DAY), .unset] [(.int (5 : Int32))])) _
      refine XS.iconst X17.here hx rfl (hb hby at_23) ?_
      show Steps p.tables e below (T17.setTop (mkF m 24 #[.val (.int p1), .val (.int (5 : Int32)), .val (.ref a_G_MONTH_DAY), .unset] [(.int (3 : Int32)), (.int (5 : Int32))])) _
      refine XS.icmpNo X17.here hx rfl (hb hby at_24) rfl (feq ((by decide) : ¬ ((5 : Int32) = (3 : Int32)))).1 ?_
      show Steps p.tables e below (T17.setTop (mkF m 27 #[.val (.int p1), .val (.int (5 : Int32)), .val (.ref a_G_MONTH_DAY), .unset] [])) _
      refine XS.iloadN X17.here hx rfl (hb hby at_27) rfl ?_
      show Steps p.tables e below (T17.setTop (mkF m 28 #[.val (.int p1), .val (.int (5 : Int32)), .val (.ref a_G_MONTH_DAY), .unset] [(.int (5 : Int32))])) _
      refine XS.iconst X17.here hx rfl (hb hby at_28) ?_
      show Steps p.tables e below (T17.setTop (mkF m 29 #[.val (.int p1), .val (.int (5 : Int32)), .val (.ref a_G_MONTH_DAY), .unset] [(.int (4 : Int32)), (.int (5 : Int32))])) _
      refine XS.icmpYes X17.here hx rfl (pc0 := 29) (pc' := 36) rfl (hb hby at_29) rfl (feq ((by decide) : ¬ ((5 : Int32) = (4 : Int32)))).2 (by decide) (by decide) ?_
      show Steps p.tables e below (T17.setTop (mkF m 36 #[.val (.int p1), .val (.int (5 : Int32)), .val (.ref a_G_MONTH_DAY), .unset] [])) _
      refine XS.iconst X17.here hx rfl (hb hby at_36) ?_
      show Steps p.tables e below (T17.setTop (mkF m 37 #[.val (.int p1), .val (.int (5 : Int32)), .val (.ref a_G_MONTH_DAY), .unset] [(.int (0 : Int32))])) _
      refine XS.istoreN X17.here hx rfl (hb hby at_37) rfl (l' := #[.val (.int p1), .val (.int (5 : Int32)), .val (.ref a_G_MONTH_DAY), .val (.int (0 : Int32))]) rfl ?_
      show Steps p.tables e below (T17.setTop (mkF m 38 #[.val (.int p1), .val (.int (5 : Int32)), .val (.ref a_G_MONTH_DAY), .val (.int (0 : Int32))] [])) _
      refine XS.aloadN X17.here hx rfl (hb hby at_38) rfl rfl ?_
      show Steps p.tables e below (T17.setTop (mkF m 39 #[.val (.int p1), .val (.int (5 : Int32)), .val (.ref a_G_MONTH_DAY), .val (.int (0 : Int32))] [(.ref a_G_MONTH_DAY)])) _
      refine st18.trans ?_
      show Steps p.tables e below (T18.setTop (mkF m 42 #[.val (.int p1), .val (.int (5 : Int32)), .val (.ref a_G_MONTH_DAY), .val (.int (0 : Int32))] [(.int (0 : Int32))])) _
      refine XS.iloadN X18.here hx rfl (hb hby at_42) rfl ?_
      show Steps p.tables e below (T18.setTop (mkF m 43 #[.val (.int p1), .val (.int (5 : Int32)), .val (.ref a_G_MONTH_DAY), .val (.int (0 : Int32))] [(.int (0 : Int32)), (.int (0 : Int32))])) _
      refine XS.icmpNo X18.here hx rfl (hb hby at_43) rfl (teq ((by decide) : (0 : Int32) = (0 : Int32))).2 ?_
      show Steps p.tables e below (T18.setTop (mkF m 46 #[.val (.int p1), .val (.int (5 : Int32)), .val (.ref a_G_MONTH_DAY), .val (.int (0 : Int32))] [])) _
      refine XS.iconst X18.here hx rfl (hb hby at_46) ?_
      show Steps p.tables e below (T18.setTop (mkF m 47 #[.val (.int p1), .val (.int (5 : Int32)), .val (.ref a_G_MONTH_DAY), .val (.int (0 : Int32))] [(.int (1 : Int32))])) _
      refine XS.goto X18.here hx rfl (pc0 := 47) (pc' := 51) rfl (hb hby at_47) (by decide) (by decide) ?_
      exact k)
    obtain ⟨fs, hr, hrun, hended, hW, hsame⟩ := X18.leave (v := some (.int (nar .boolean (1 : Int32)))) (fun h => by rw [Bd.returns] at h; cases h)
    refine ⟨_, _, pre19 _ ?_, hrun, hended, _, _, rfl, ?_, ⟨_, rfl⟩, hW, hsame.mono (by decide) (by decide)⟩
    · show Steps p.tables e below (T18.setTop (mkF m 51 #[.val (.int p1), .val (.int (5 : Int32)), .val (.ref a_G_MONTH_DAY), .val (.int (0 : Int32))] [(.int (1 : Int32))])) _
      exact retN X18 hx (t := .boolean) Bd.returns (by simp) (hb hby at_51) hr
    · show QL n0 _ T18.heap _
      rw [e18]
      exact ⟨rfl, N18⟩
  · subst hk
    obtain ⟨_, _, ⟨T20, L20, k20, n20⟩, -, X20, ⟨Lc20, hQ20, l20, y20, z20⟩, st20⟩ := Jvm.LawKit.callS X0 hx (y := (⟨"com/example/datewarden/datewarden/XmlSchemaTypeTakesDurationsPinLaw", "pick", "(I)Lcom/example/datewarden/datewarden/XmlSchemaType;"⟩ : MethodName)) hown (mvT hZ (hw _ (List.mem_of_getElem? (i := 1) rfl))) (mvT hZ (hw _ (List.mem_of_getElem? (i := 2) rfl))) (mvT hZ (hw _ (List.mem_of_getElem? (i := 3) rfl))) (mvT hZ (hw _ (List.mem_of_getElem? (i := 4) rfl))) (by decide) (backOf (W := 0) (rm1_6 l Z a0 hw []  a_DATE_TIME a_G_YEAR_MONTH a_DATE a_TIME a_G_YEAR a_G_MONTH a_DURATION a_G_DAY a_G_MONTH_DAY h0 n0 Z0 S_DATE_TIME E_DATE_TIME S_G_YEAR_MONTH E_G_YEAR_MONTH S_DATE E_DATE S_TIME E_TIME S_G_YEAR E_G_YEAR S_G_MONTH E_G_MONTH S_DURATION E_DURATION S_G_DAY E_G_DAY S_G_MONTH_DAY E_G_MONTH_DAY) hZ (hw _ (List.mem_of_getElem? (i := 4) rfl)) (hw _ (List.mem_of_getElem? (i := 3) rfl)) (by decide) (by decide)) (g := (mkF m 9 #[.val (.int p1), .val (.int (6 : Int32)), .unset, .unset] [(.int (6 : Int32))])) rfl (by rw [hml]; rfl) (argsL := [(.int (6 : Int32))]) (rest := []) (lenOf own_pd0 rfl) rfl (by show 2 * 0 + _ ≤ _; exact Nat.le_of_eq rfl) (hb hby at_9) (fun _ _ => ⟨rfl, e0, (by decide : 0 + 0 ≤ _), (by decide : 0 + 0 ≤ _)⟩)
    dsimp only [Pt.U, Pt.locs, Pt.cells, Pt.slots] at X20 l20 y20 z20 st20 hQ20
    subst l20 y20 z20
    obtain ⟨rfl, N20q, e20⟩ := hQ20
    have N20 := Fr.app N0 N20q
    obtain ⟨cq21, kq21, q21a, q21b, q21c⟩ := isOf hZ e20 E_G_DAY
    obtain ⟨_, _, ⟨T21, L21, k21, n21⟩, -, X21, ⟨Lc21, hQ21, l21, y21, z21⟩, st21⟩ := X20.virtualBack hx (y := (⟨"com/example/datewarden/datewarden/XmlSchemaType", "takesDurations", "()Z"⟩ : MethodName)) (z := (⟨"com/example/datewarden/datewarden/XmlSchemaType", "takesDurations", "()Z"⟩ : MethodName)) hown (mvT hZ (hw _ (List.mem_of_getElem? (i := 8) rfl))) (mvT hZ (hw _ (List.mem_of_getElem? (i := 9) rfl))) (notFace_of_selects (args := #[]) (mvT hZ (hw _ (List.mem_of_getElem? (i := 37) rfl)))) (mvT hZ (hw _ (List.mem_of_getElem? (i := 37) rfl))) (mvT hZ (hw _ (List.mem_of_getElem? (i := 10) rfl))) (by decide) (backOf (W := 0) (rm2_6 l Z a0 hw []  a_DATE_TIME a_G_YEAR_MONTH a_DATE a_TIME a_G_YEAR a_G_MONTH a_DURATION a_G_DAY a_G_MONTH_DAY h0 n0 Z0 S_DATE_TIME E_DATE_TIME S_G_YEAR_MONTH E_G_YEAR_MONTH S_DATE E_DATE S_TIME E_TIME S_G_YEAR E_G_YEAR S_G_MONTH E_G_MONTH S_DURATION E_DURATION S_G_DAY E_G_DAY S_G_MONTH_DAY E_G_MONTH_DAY) hZ (hw _ (List.mem_of_getElem? (i := 12) rfl)) (hw _ (List.mem_of_getElem? (i := 6) rfl)) (by decide) (by decide)) q21a q21c (g := (mkF m 39 #[.val (.int p1), .val (.int (6 : Int32)), .val (.ref a_G_DAY), .val (.int (0 : Int32))] [(.ref a_G_DAY)])) rfl (by rw [hml]; rfl) (Steps.refl _) (argsL := []) (rest := []) (lenOf own_pd1 rfl) rfl (by show 2 * 0 + _ ≤ _; exact Nat.le_of_eq rfl) (hb hby at_39) (fun _ _ => ⟨rfl, e20, (by decide : 0 + 0 ≤ _), (by decide : 0 + 0 ≤ _)⟩)
    dsimp only [Pt.U, Pt.locs, Pt.cells, Pt.slots] at X21 l21 y21 z21 st21 hQ21
    subst l21 y21 z21
    obtain ⟨rfl, N21q, e21⟩ := hQ21
    have N21 := Fr.app N20 N21q
    have pre22 : ∀ t, Steps p.tables e below (T21.setTop (mkF m 51 #[.val (.int p1), .val (.int (6 : Int32)), .val (.ref a_G_DAY), .val (.int (0 : Int32))] [(.int (1 : Int32))])) t → Steps p.tables e below (s₁.setTop (entryFrame m #[(.int p1)] maxLocals)) t := fun t k => pre1 t (by
      show Steps p.tables e below (s₁.setTop (mkF m 7 #[.val (.int p1), .unset, .unset, .unset] [(.int (6 : Int32))])) _
      refine XS.istoreN X0.here hx rfl (hb hby at_7) rfl (l' := #[.val (.int p1), .val (.int (6 : Int32)), .unset, .unset]) rfl ?_
      show Steps p.tables e below (s₁.setTop (mkF m 8 #[.val (.int p1), .val (.int (6 : Int32)), .unset, .unset] [])) _
      refine XS.iloadN X0.here hx rfl (hb hby at_8) rfl ?_
      show Steps p.tables e below (s₁.setTop (mkF m 9 #[.val (.int p1), .val (.int (6 : Int32)), .unset, .unset] [(.int (6 : Int32))])) _
      refine st20 _ ?_
      show Steps p.tables e below (T20.setTop (mkF m 12 #[.val (.int p1), .val (.int (6 : Int32)), .unset, .unset] [(.ref a_G_DAY)])) _
      refine XS.astoreN X20.here hx rfl (hb hby at_12) rfl rfl (l' := #[.val (.int p1), .val (.int (6 : Int32)), .val (.ref a_G_DAY), .unset]) rfl ?_
      show Steps p.tables e below (T20.setTop (mkF m 13 #[.val (.int p1), .val (.int (6 : Int32)), .val (.ref a_G_DAY), .unset] [])) _
      refine XS.iloadN X20.here hx rfl (hb hby at_13) rfl ?_
      show Steps p.tables e below (T20.setTop (mkF m 14 #[.val (.int p1), .val (.int (6 : Int32)), .val (.ref a_G_DAY), .unset] [(.int (6 : Int32))])) _
      refine XS.ifNo X20.here hx rfl (hb hby at_14) rfl ((if0 _ _).trans (feq ((by decide) : ¬ ((6 : Int32) = (0 : Int32)))).1) ?_
      show Steps p.tables e below (T20.setTop (mkF m 17 #[.val (.int p1), .val (.int (6 : Int32)), .val (.ref a_G_DAY), .unset] [])) _
      refine XS.iloadN X20.here hx rfl (hb hby at_17) rfl ?_
      show Steps p.tables e below (T20.setTop (mkF m 18 #[.val (.int p1), .val (.int (6 : Int32)), .val (.ref a_G_DAY), .unset] [(.int (6 : Int32))])) _
      refine XS.iconst X20.here hx rfl (hb hby at_18) ?_
      show Steps p.tables e below (T20.setTop (mkF m 19 #[.val (.int p1), .val (.int (6 : Int32)), .val (.ref a_G_DAY), .unset] [(.int (1 : Int32)), (.int (6 : Int32))])) _
      refine XS.icmpNo X20.here hx rfl (hb hby at_19) rfl (feq ((by decide) : ¬ ((6 : Int32) = (1 : Int32)))).1 ?_
      show Steps p.tables e below (T20.setTop (mkF m 22 #[.val (.int p1), .val (.int (6 : Int32)), .val (.ref a_G_DAY), .unset] [])) _
      refine XS.iloadN X20.here hx rfl (hb hby at_22) rfl ?_
      show Steps p.tables e below (T20.setTop (mkF m 23 #[.val (.int p1), .val (.int (6 : Int32)), .val (.ref a_G_DAY), .unset] [(.int (6 : Int32))])) _
      refine XS.iconst X20.here hx rfl (hb hby at_23) ?_
      show Steps p.tables e below (T20.setTop (mkF m 24 #[.val (.int p1), .val (.int (6 : Int32)), .val (.ref a_G_DAY), .unset] [(.int (3 : Int32)), (.int (6 : Int32))])) _
      refine XS.icmpNo X20.here hx rfl (hb hby at_24) rfl (feq ((by decide) : ¬ ((6 : Int32) = (3 : Int32)))).1 ?_
      show Steps p.tables e below (T20.setTop (mkF m 27 #[.val (.int p1), .val (.int (6 : Int32)), .val (.ref a_G_DAY), .unset] [])) _
      refine XS.iloadN X20.here hx rfl (hb hby at_27) rfl ?_
      show Steps p.tables e below (T20.setTop (mkF m 28 #[.val (.int p1), .val (.int (6 : Int32)), .val (.ref a_G_DAY), .unset] [(.int (6 : Int32))])) _
      refine XS.iconst X20.here hx rfl (hb hby at_28) ?_
      show Steps p.tables e below (T20.setTop (mkF m 29 #[.val (.int p1), .val (.int (6 : Int32)), .val (.ref a_G_DAY), .unset] [(.int (4 : Int32)), (.int (6 : Int32))])) _
      refine XS.icmpYes X20.here hx rfl (pc0 := 29) (pc' := 36) rfl (hb hby at_29) rfl (feq ((by decide) : ¬ ((6 : Int32) = (4 : Int32)))).2 (by decide) (by decide) ?_
      show Steps p.tables e below (T20.setTop (mkF m 36 #[.val (.int p1), .val (.int (6 : Int32)), .val (.ref a_G_DAY), .unset] [])) _
      refine XS.iconst X20.here hx rfl (hb hby at_36) ?_
      show Steps p.tables e below (T20.setTop (mkF m 37 #[.val (.int p1), .val (.int (6 : Int32)), .val (.ref a_G_DAY), .unset] [(.int (0 : Int32))])) _
      refine XS.istoreN X20.here hx rfl (hb hby at_37) rfl (l' := #[.val (.int p1), .val (.int (6 : Int32)), .val (.ref a_G_DAY), .val (.int (0 : Int32))]) rfl ?_
      show Steps p.tables e below (T20.setTop (mkF m 38 #[.val (.int p1), .val (.int (6 : Int32)), .val (.ref a_G_DAY), .val (.int (0 : Int32))] [])) _
      refine XS.aloadN X20.here hx rfl (hb hby at_38) rfl rfl ?_
      show Steps p.tables e below (T20.setTop (mkF m 39 #[.val (.int p1), .val (.int (6 : Int32)), .val (.ref a_G_DAY), .val (.int (0 : Int32))] [(.ref a_G_DAY)])) _
      refine st21.trans ?_
      show Steps p.tables e below (T21.setTop (mkF m 42 #[.val (.int p1), .val (.int (6 : Int32)), .val (.ref a_G_DAY), .val (.int (0 : Int32))] [(.int (0 : Int32))])) _
      refine XS.iloadN X21.here hx rfl (hb hby at_42) rfl ?_
      show Steps p.tables e below (T21.setTop (mkF m 43 #[.val (.int p1), .val (.int (6 : Int32)), .val (.ref a_G_DAY), .val (.int (0 : Int32))] [(.int (0 : Int32)), (.int (0 : Int32))])) _
      refine XS.icmpNo X21.here hx rfl (hb hby at_43) rfl (teq ((by decide) : (0 : Int32) = (0 : Int32))).2 ?_
      show Steps p.tables e below (T21.setTop (mkF m 46 #[.val (.int p1), .val (.int (6 : Int32)), .val (.ref a_G_DAY), .val (.int (0 : Int32))] [])) _
      refine XS.iconst X21.here hx rfl (hb hby at_46) ?_
      show Steps p.tables e below (T21.setTop (mkF m 47 #[.val (.int p1), .val (.int (6 : Int32)), .val (.ref a_G_DAY), .val (.int (0 : Int32))] [(.int (1 : Int32))])) _
      refine XS.goto X21.here hx rfl (pc0 := 47) (pc' := 51) rfl (hb hby at_47) (by decide) (by decide) ?_
      exact k)
    obtain ⟨fs, hr, hrun, hended, hW, hsame⟩ := X21.leave (v := some (.int (nar .boolean (1 : Int32)))) (fun h => by rw [Bd.returns] at h; cases h)
    refine ⟨_, _, pre22 _ ?_, hrun, hended, _, _, rfl, ?_, ⟨_, rfl⟩, hW, hsame.mono (by decide) (by decide)⟩
    · show Steps p.tables e below (T21.setTop (mkF m 51 #[.val (.int p1), .val (.int (6 : Int32)), .val (.ref a_G_DAY), .val (.int (0 : Int32))] [(.int (1 : Int32))])) _
      exact retN X21 hx (t := .boolean) Bd.returns (by simp) (hb hby at_51) hr
    · show QL n0 _ T21.heap _
      rw [e21]
      exact ⟨rfl, N21⟩
  · subst hk
    obtain ⟨_, _, ⟨T23, L23, k23, n23⟩, -, X23, ⟨Lc23, hQ23, l23, y23, z23⟩, st23⟩ := Jvm.LawKit.callS X0 hx (y := (⟨"com/example/datewarden/datewarden/XmlSchemaTypeTakesDurationsPinLaw", "pick", "(I)Lcom/example/datewarden/datewarden/XmlSchemaType;"⟩ : MethodName)) hown (mvT hZ (hw _ (List.mem_of_getElem? (i := 1) rfl))) (mvT hZ (hw _ (List.mem_of_getElem? (i := 2) rfl))) (mvT hZ (hw _ (List.mem_of_getElem? (i := 3) rfl))) (mvT hZ (hw _ (List.mem_of_getElem? (i := 4) rfl))) (by decide) (backOf (W := 0) (rm1_7 l Z a0 hw []  a_DATE_TIME a_G_YEAR_MONTH a_DATE a_TIME a_G_YEAR a_G_MONTH a_DURATION a_G_DAY a_G_MONTH_DAY h0 n0 Z0 S_DATE_TIME E_DATE_TIME S_G_YEAR_MONTH E_G_YEAR_MONTH S_DATE E_DATE S_TIME E_TIME S_G_YEAR E_G_YEAR S_G_MONTH E_G_MONTH S_DURATION E_DURATION S_G_DAY E_G_DAY S_G_MONTH_DAY E_G_MONTH_DAY) hZ (hw _ (List.mem_of_getElem? (i := 4) rfl)) (hw _ (List.mem_of_getElem? (i := 3) rfl)) (by decide) (by decide)) (g := (mkF m 9 #[.val (.int p1), .val (.int (7 : Int32)), .unset, .unset] [(.int (7 : Int32))])) rfl (by rw [hml]; rfl) (argsL := [(.int (7 : Int32))]) (rest := []) (lenOf own_pd0 rfl) rfl (by show 2 * 0 + _ ≤ _; exact Nat.le_of_eq rfl) (hb hby at_9) (fun _ _ => ⟨rfl, e0, (by decide : 0 + 0 ≤ _), (by decide : 0 + 0 ≤ _)⟩)
    dsimp only [Pt.U, Pt.locs, Pt.cells, Pt.slots] at X23 l23 y23 z23 st23 hQ23
    subst l23 y23 z23
    obtain ⟨rfl, N23q, e23⟩ := hQ23
    have N23 := Fr.app N0 N23q
    obtain ⟨cq24, kq24, q24a, q24b, q24c⟩ := isOf hZ e23 E_G_MONTH
    obtain ⟨_, _, ⟨T24, L24, k24, n24⟩, -, X24, ⟨Lc24, hQ24, l24, y24, z24⟩, st24⟩ := X23.virtualBack hx (y := (⟨"com/example/datewarden/datewarden/XmlSchemaType", "takesDurations", "()Z"⟩ : MethodName)) (z := (⟨"com/example/datewarden/datewarden/XmlSchemaType", "takesDurations", "()Z"⟩ : MethodName)) hown (mvT hZ (hw _ (List.mem_of_getElem? (i := 8) rfl))) (mvT hZ (hw _ (List.mem_of_getElem? (i := 9) rfl))) (notFace_of_selects (args := #[]) (mvT hZ (hw _ (List.mem_of_getElem? (i := 29) rfl)))) (mvT hZ (hw _ (List.mem_of_getElem? (i := 29) rfl))) (mvT hZ (hw _ (List.mem_of_getElem? (i := 10) rfl))) (by decide) (backOf (W := 0) (rm2_7 l Z a0 hw []  a_DATE_TIME a_G_YEAR_MONTH a_DATE a_TIME a_G_YEAR a_G_MONTH a_DURATION a_G_DAY a_G_MONTH_DAY h0 n0 Z0 S_DATE_TIME E_DATE_TIME S_G_YEAR_MONTH E_G_YEAR_MONTH S_DATE E_DATE S_TIME E_TIME S_G_YEAR E_G_YEAR S_G_MONTH E_G_MONTH S_DURATION E_DURATION S_G_DAY E_G_DAY S_G_MONTH_DAY E_G_MONTH_DAY) hZ (hw _ (List.mem_of_getElem? (i := 12) rfl)) (hw _ (List.mem_of_getElem? (i := 6) rfl)) (by decide) (by decide)) q24a q24c (g := (mkF m 39 #[.val (.int p1), .val (.int (7 : Int32)), .val (.ref a_G_MONTH), .val (.int (0 : Int32))] [(.ref a_G_MONTH)])) rfl (by rw [hml]; rfl) (Steps.refl _) (argsL := []) (rest := []) (lenOf own_pd1 rfl) rfl (by show 2 * 0 + _ ≤ _; exact Nat.le_of_eq rfl) (hb hby at_39) (fun _ _ => ⟨rfl, e23, (by decide : 0 + 0 ≤ _), (by decide : 0 + 0 ≤ _)⟩)
    dsimp only [Pt.U, Pt.locs, Pt.cells, Pt.slots] at X24 l24 y24 z24 st24 hQ24
    subst l24 y24 z24
    obtain ⟨rfl, N24q, e24⟩ := hQ24
    have N24 := Fr.app N23 N24q
    have pre25 : ∀ t, Steps p.tables e below (T24.setTop (mkF m 51 #[.val (.int p1), .val (.int (7 : Int32)), .val (.ref a_G_MONTH), .val (.int (0 : Int32))] [(.int (1 : Int32))])) t → Steps p.tables e below (s₁.setTop (entryFrame m #[(.int p1)] maxLocals)) t := fun t k => pre1 t (by
      show Steps p.tables e below (s₁.setTop (mkF m 7 #[.val (.int p1), .unset, .unset, .unset] [(.int (7 : Int32))])) _
      refine XS.istoreN X0.here hx rfl (hb hby at_7) rfl (l' := #[.val (.int p1), .val (.int (7 : Int32)), .unset, .unset]) rfl ?_
      show Steps p.tables e below (s₁.setTop (mkF m 8 #[.val (.int p1), .val (.int (7 : Int32)), .unset, .unset] [])) _
      refine XS.iloadN X0.here hx rfl (hb hby at_8) rfl ?_
      show Steps p.tables e below (s₁.setTop (mkF m 9 #[.val (.int p1), .val (.int (7 : Int32)), .unset, .unset] [(.int (7 : Int32))])) _
      refine st23 _ ?_
      show Steps p.tables e below (T23.setTop (mkF m 12 #[.val (.int p1), .val (.int (7 : Int32)), .unset, .unset] [(.ref a_G_MONTH)])) _
      refine XS.astoreN X23.here hx rfl (hb hby at_12) rfl rfl (l' := #[.val (.int p1), .val (.int (7 : Int32)), .val (.ref a_G_MONTH), .unset]) rfl ?_
      show Steps p.tables e below (T23.setTop (mkF m 13 #[.val (.int p1), .val (.int (7 : Int32)), .val (.ref a_G_MONTH), .unset] [])) _
      refine XS.iloadN X23.here hx rfl (hb hby at_13) rfl ?_
      show Steps p.tables e below (T23.setTop (mkF m 14 #[.val (.int p1), .val (.int (7 : Int32)), .val (.ref a_G_MONTH), .unset] [(.int (7 : Int32))])) _
      refine XS.ifNo X23.here hx rfl (hb hby at_14) rfl ((if0 _ _).trans (feq ((by decide) : ¬ ((7 : Int32) = (0 : Int32)))).1) ?_
      show Steps p.tables e below (T23.setTop (mkF m 17 #[.val (.int p1), .val (.int (7 : Int32)), .val (.ref a_G_MONTH), .unset] [])) _
      refine XS.iloadN X23.here hx rfl (hb hby at_17) rfl ?_
      show Steps p.tables e below (T23.setTop (mkF m 18 #[.val (.int p1), .val (.int (7 : Int32)), .val (.ref a_G_MONTH), .unset] [(.int (7 : Int32))])) _
      refine XS.iconst X23.here hx rfl (hb hby at_18) ?_
      show Steps p.tables e below (T23.setTop (mkF m 19 #[.val (.int p1), .val (.int (7 : Int32)), .val (.ref a_G_MONTH), .unset] [(.int (1 : Int32)), (.int (7 : Int32))])) _
      refine XS.icmpNo X23.here hx rfl (hb hby at_19) rfl (feq ((by decide) : ¬ ((7 : Int32) = (1 : Int32)))).1 ?_
      show Steps p.tables e below (T23.setTop (mkF m 22 #[.val (.int p1), .val (.int (7 : Int32)), .val (.ref a_G_MONTH), .unset] [])) _
      refine XS.iloadN X23.here hx rfl (hb hby at_22) rfl ?_
      show Steps p.tables e below (T23.setTop (mkF m 23 #[.val (.int p1), .val (.int (7 : Int32)), .val (.ref a_G_MONTH), .unset] [(.int (7 : Int32))])) _
      refine XS.iconst X23.here hx rfl (hb hby at_23) ?_
      show Steps p.tables e below (T23.setTop (mkF m 24 #[.val (.int p1), .val (.int (7 : Int32)), .val (.ref a_G_MONTH), .unset] [(.int (3 : Int32)), (.int (7 : Int32))])) _
      refine XS.icmpNo X23.here hx rfl (hb hby at_24) rfl (feq ((by decide) : ¬ ((7 : Int32) = (3 : Int32)))).1 ?_
      show Steps p.tables e below (T23.setTop (mkF m 27 #[.val (.int p1), .val (.int (7 : Int32)), .val (.ref a_G_MONTH), .unset] [])) _
      refine XS.iloadN X23.here hx rfl (hb hby at_27) rfl ?_
      show Steps p.tables e below (T23.setTop (mkF m 28 #[.val (.int p1), .val (.int (7 : Int32)), .val (.ref a_G_MONTH), .unset] [(.int (7 : Int32))])) _
      refine XS.iconst X23.here hx rfl (hb hby at_28) ?_
      show Steps p.tables e below (T23.setTop (mkF m 29 #[.val (.int p1), .val (.int (7 : Int32)), .val (.ref a_G_MONTH), .unset] [(.int (4 : Int32)), (.int (7 : Int32))])) _
      refine XS.icmpYes X23.here hx rfl (pc0 := 29) (pc' := 36) rfl (hb hby at_29) rfl (feq ((by decide) : ¬ ((7 : Int32) = (4 : Int32)))).2 (by decide) (by decide) ?_
      show Steps p.tables e below (T23.setTop (mkF m 36 #[.val (.int p1), .val (.int (7 : Int32)), .val (.ref a_G_MONTH), .unset] [])) _
      refine XS.iconst X23.here hx rfl (hb hby at_36) ?_
      show Steps p.tables e below (T23.setTop (mkF m 37 #[.val (.int p1), .val (.int (7 : Int32)), .val (.ref a_G_MONTH), .unset] [(.int (0 : Int32))])) _
      refine XS.istoreN X23.here hx rfl (hb hby at_37) rfl (l' := #[.val (.int p1), .val (.int (7 : Int32)), .val (.ref a_G_MONTH), .val (.int (0 : Int32))]) rfl ?_
      show Steps p.tables e below (T23.setTop (mkF m 38 #[.val (.int p1), .val (.int (7 : Int32)), .val (.ref a_G_MONTH), .val (.int (0 : Int32))] [])) _
      refine XS.aloadN X23.here hx rfl (hb hby at_38) rfl rfl ?_
      show Steps p.tables e below (T23.setTop (mkF m 39 #[.val (.int p1), .val (.int (7 : Int32)), .val (.ref a_G_MONTH), .val (.int (0 : Int32))] [(.ref a_G_MONTH)])) _
      refine st24.trans ?_
      show Steps p.tables e below (T24.setTop (mkF m 42 #[.val (.int p1), .val (.int (7 : Int32)), .val (.ref a_G_MONTH), .val (.int (0 : Int32))] [(.int (0 : Int32))])) _
      refine XS.iloadN X24.here hx rfl (hb hby at_42) rfl ?_
      show Steps p.tables e below (T24.setTop (mkF m 43 #[.val (.int p1), .val (.int (7 : Int32)), .val (.ref a_G_MONTH), .val (.int (0 : Int32))] [(.int (0 : Int32)), (.int (0 : Int32))])) _
      refine XS.icmpNo X24.here hx rfl (hb hby at_43) rfl (teq ((by decide) : (0 : Int32) = (0 : Int32))).2 ?_
      show Steps p.tables e below (T24.setTop (mkF m 46 #[.val (.int p1), .val (.int (7 : Int32)), .val (.ref a_G_MONTH), .val (.int (0 : Int32))] [])) _
      refine XS.iconst X24.here hx rfl (hb hby at_46) ?_
      show Steps p.tables e below (T24.setTop (mkF m 47 #[.val (.int p1), .val (.int (7 : Int32)), .val (.ref a_G_MONTH), .val (.int (0 : Int32))] [(.int (1 : Int32))])) _
      refine XS.goto X24.here hx rfl (pc0 := 47) (pc' := 51) rfl (hb hby at_47) (by decide) (by decide) ?_
      exact k)
    obtain ⟨fs, hr, hrun, hended, hW, hsame⟩ := X24.leave (v := some (.int (nar .boolean (1 : Int32)))) (fun h => by rw [Bd.returns] at h; cases h)
    refine ⟨_, _, pre25 _ ?_, hrun, hended, _, _, rfl, ?_, ⟨_, rfl⟩, hW, hsame.mono (by decide) (by decide)⟩
    · show Steps p.tables e below (T24.setTop (mkF m 51 #[.val (.int p1), .val (.int (7 : Int32)), .val (.ref a_G_MONTH), .val (.int (0 : Int32))] [(.int (1 : Int32))])) _
      exact retN X24 hx (t := .boolean) Bd.returns (by simp) (hb hby at_51) hr
    · show QL n0 _ T24.heap _
      rw [e24]
      exact ⟨rfl, N24⟩
  · subst hk
    obtain ⟨_, _, ⟨T26, L26, k26, n26⟩, -, X26, ⟨Lc26, hQ26, l26, y26, z26⟩, st26⟩ := Jvm.LawKit.callS X0 hx (y := (⟨"com/example/datewarden/datewarden/XmlSchemaTypeTakesDurationsPinLaw", "pick", "(I)Lcom/example/datewarden/datewarden/XmlSchemaType;"⟩ : MethodName)) hown (mvT hZ (hw _ (List.mem_of_getElem? (i := 1) rfl))) (mvT hZ (hw _ (List.mem_of_getElem? (i := 2) rfl))) (mvT hZ (hw _ (List.mem_of_getElem? (i := 3) rfl))) (mvT hZ (hw _ (List.mem_of_getElem? (i := 4) rfl))) (by decide) (backOf (W := 0) (rm1_8 l Z a0 hw []  a_DATE_TIME a_G_YEAR_MONTH a_DATE a_TIME a_G_YEAR a_G_MONTH a_DURATION a_G_DAY a_G_MONTH_DAY h0 n0 Z0 S_DATE_TIME E_DATE_TIME S_G_YEAR_MONTH E_G_YEAR_MONTH S_DATE E_DATE S_TIME E_TIME S_G_YEAR E_G_YEAR S_G_MONTH E_G_MONTH S_DURATION E_DURATION S_G_DAY E_G_DAY S_G_MONTH_DAY E_G_MONTH_DAY) hZ (hw _ (List.mem_of_getElem? (i := 4) rfl)) (hw _ (List.mem_of_getElem? (i := 3) rfl)) (by decide) (by decide)) (g := (mkF m 9 #[.val (.int p1), .val (.int (8 : Int32)), .unset, .unset] [(.int (8 : Int32))])) rfl (by rw [hml]; rfl) (argsL := [(.int (8 : Int32))]) (rest := []) (lenOf own_pd0 rfl) rfl (by show 2 * 0 + _ ≤ _; exact Nat.le_of_eq rfl) (hb hby at_9) (fun _ _ => ⟨rfl, e0, (by decide : 0 + 0 ≤ _), (by decide : 0 + 0 ≤ _)⟩)
    dsimp only [Pt.U, Pt.locs, Pt.cells, Pt.slots] at X26 l26 y26 z26 st26 hQ26
    subst l26 y26 z26
    obtain ⟨rfl, N26q, e26⟩ := hQ26
    have N26 := Fr.app N0 N26q
    obtain ⟨cq27, kq27, q27a, q27b, q27c⟩ := isOf hZ e26 E_DURATION
    obtain ⟨_, _, ⟨T27, L27, k27, n27⟩, -, X27, ⟨Lc27, hQ27, l27, y27, z27⟩, st27⟩ := X26.virtualBack hx (y := (⟨"com/example/datewarden/datewarden/XmlSchemaType", "takesDurations", "()Z"⟩ : MethodName)) (z := (⟨"com/example/datewarden/datewarden/XmlSchemaType", "takesDurations", "()Z"⟩ : MethodName)) hown (mvT hZ (hw _ (List.mem_of_getElem? (i := 8) rfl))) (mvT hZ (hw _ (List.mem_of_getElem? (i := 9) rfl))) (notFace_of_selects (args := #[]) (mvT hZ (hw _ (List.mem_of_getElem? (i := 34) rfl)))) (mvT hZ (hw _ (List.mem_of_getElem? (i := 34) rfl))) (mvT hZ (hw _ (List.mem_of_getElem? (i := 10) rfl))) (by decide) (backOf (W := 0) (rm2_8 l Z a0 hw []  a_DATE_TIME a_G_YEAR_MONTH a_DATE a_TIME a_G_YEAR a_G_MONTH a_DURATION a_G_DAY a_G_MONTH_DAY h0 n0 Z0 S_DATE_TIME E_DATE_TIME S_G_YEAR_MONTH E_G_YEAR_MONTH S_DATE E_DATE S_TIME E_TIME S_G_YEAR E_G_YEAR S_G_MONTH E_G_MONTH S_DURATION E_DURATION S_G_DAY E_G_DAY S_G_MONTH_DAY E_G_MONTH_DAY) hZ (hw _ (List.mem_of_getElem? (i := 12) rfl)) (hw _ (List.mem_of_getElem? (i := 6) rfl)) (by decide) (by decide)) q27a q27c (g := (mkF m 39 #[.val (.int p1), .val (.int (8 : Int32)), .val (.ref a_DURATION), .val (.int (0 : Int32))] [(.ref a_DURATION)])) rfl (by rw [hml]; rfl) (Steps.refl _) (argsL := []) (rest := []) (lenOf own_pd1 rfl) rfl (by show 2 * 0 + _ ≤ _; exact Nat.le_of_eq rfl) (hb hby at_39) (fun _ _ => ⟨rfl, e26, (by decide : 0 + 0 ≤ _), (by decide : 0 + 0 ≤ _)⟩)
    dsimp only [Pt.U, Pt.locs, Pt.cells, Pt.slots] at X27 l27 y27 z27 st27 hQ27
    subst l27 y27 z27
    obtain ⟨rfl, N27q, e27⟩ := hQ27
    have N27 := Fr.app N26 N27q
    have pre28 : ∀ t, Steps p.tables e below (T27.setTop (mkF m 51 #[.val (.int p1), .val (.int (8 : Int32)), .val (.ref a_DURATION), .val (.int (0 : Int32))] [(.int (1 : Int32))])) t → Steps p.tables e below (s₁.setTop (entryFrame m #[(.int p1)] maxLocals)) t := fun t k => pre1 t (by
      show Steps p.tables e below (s₁.setTop (mkF m 7 #[.val (.int p1), .unset, .unset, .unset] [(.int (8 : Int32))])) _
      refine XS.istoreN X0.here hx rfl (hb hby at_7) rfl (l' := #[.val (.int p1), .val (.int (8 : Int32)), .unset, .unset]) rfl ?_
      show Steps p.tables e below (s₁.setTop (mkF m 8 #[.val (.int p1), .val (.int (8 : Int32)), .unset, .unset] [])) _
      refine XS.iloadN X0.here hx rfl (hb hby at_8) rfl ?_
      show Steps p.tables e below (s₁.setTop (mkF m 9 #[.val (.int p1), .val (.int (8 : Int32)), .unset, .unset] [(.int (8 : Int32))])) _
      refine st26 _ ?_
      show Steps p.tables e below (T26.setTop (mkF m 12 #[.val (.int p1), .val (.int (8 : Int32)), .unset, .unset] [(.ref a_DURATION)])) _
      refine XS.astoreN X26.here hx rfl (hb hby at_12) rfl rfl (l' := #[.val (.int p1), .val (.int (8 : Int32)), .val (.ref a_DURATION), .unset]) rfl ?_
      show Steps p.tables e below (T26.setTop (mkF m 13 #[.val (.int p1), .val (.int (8 : Int32)), .val (.ref a_DURATION), .unset] [])) _
      refine XS.iloadN X26.here hx rfl (hb hby at_13) rfl ?_
      show Steps p.tables e below (T26.setTop (mkF m 14 #[.val (.int p1), .val (.int (8 : Int32)), .val (.ref a_DURATION), .unset] [(.int (8 : Int32))])) _
      refine XS.ifNo X26.here hx rfl (hb hby at_14) rfl ((if0 _ _).trans (feq ((by decide) : ¬ ((8 : Int32) = (0 : Int32)))).1) ?_
      show Steps p.tables e below (T26.setTop (mkF m 17 #[.val (.int p1), .val (.int (8 : Int32)), .val (.ref a_DURATION), .unset] [])) _
      refine XS.iloadN X26.here hx rfl (hb hby at_17) rfl ?_
      show Steps p.tables e below (T26.setTop (mkF m 18 #[.val (.int p1), .val (.int (8 : Int32)), .val (.ref a_DURATION), .unset] [(.int (8 : Int32))])) _
      refine XS.iconst X26.here hx rfl (hb hby at_18) ?_
      show Steps p.tables e below (T26.setTop (mkF m 19 #[.val (.int p1), .val (.int (8 : Int32)), .val (.ref a_DURATION), .unset] [(.int (1 : Int32)), (.int (8 : Int32))])) _
      refine XS.icmpNo X26.here hx rfl (hb hby at_19) rfl (feq ((by decide) : ¬ ((8 : Int32) = (1 : Int32)))).1 ?_
      show Steps p.tables e below (T26.setTop (mkF m 22 #[.val (.int p1), .val (.int (8 : Int32)), .val (.ref a_DURATION), .unset] [])) _
      refine XS.iloadN X26.here hx rfl (hb hby at_22) rfl ?_
      show Steps p.tables e below (T26.setTop (mkF m 23 #[.val (.int p1), .val (.int (8 : Int32)), .val (.ref a_DURATION), .unset] [(.int (8 : Int32))])) _
      refine XS.iconst X26.here hx rfl (hb hby at_23) ?_
      show Steps p.tables e below (T26.setTop (mkF m 24 #[.val (.int p1), .val (.int (8 : Int32)), .val (.ref a_DURATION), .unset] [(.int (3 : Int32)), (.int (8 : Int32))])) _
      refine XS.icmpNo X26.here hx rfl (hb hby at_24) rfl (feq ((by decide) : ¬ ((8 : Int32) = (3 : Int32)))).1 ?_
      show Steps p.tables e below (T26.setTop (mkF m 27 #[.val (.int p1), .val (.int (8 : Int32)), .val (.ref a_DURATION), .unset] [])) _
      refine XS.iloadN X26.here hx rfl (hb hby at_27) rfl ?_
      show Steps p.tables e below (T26.setTop (mkF m 28 #[.val (.int p1), .val (.int (8 : Int32)), .val (.ref a_DURATION), .unset] [(.int (8 : Int32))])) _
      refine XS.iconst X26.here hx rfl (hb hby at_28) ?_
      show Steps p.tables e below (T26.setTop (mkF m 29 #[.val (.int p1), .val (.int (8 : Int32)), .val (.ref a_DURATION), .unset] [(.int (4 : Int32)), (.int (8 : Int32))])) _
      refine XS.icmpYes X26.here hx rfl (pc0 := 29) (pc' := 36) rfl (hb hby at_29) rfl (feq ((by decide) : ¬ ((8 : Int32) = (4 : Int32)))).2 (by decide) (by decide) ?_
      show Steps p.tables e below (T26.setTop (mkF m 36 #[.val (.int p1), .val (.int (8 : Int32)), .val (.ref a_DURATION), .unset] [])) _
      refine XS.iconst X26.here hx rfl (hb hby at_36) ?_
      show Steps p.tables e below (T26.setTop (mkF m 37 #[.val (.int p1), .val (.int (8 : Int32)), .val (.ref a_DURATION), .unset] [(.int (0 : Int32))])) _
      refine XS.istoreN X26.here hx rfl (hb hby at_37) rfl (l' := #[.val (.int p1), .val (.int (8 : Int32)), .val (.ref a_DURATION), .val (.int (0 : Int32))]) rfl ?_
      show Steps p.tables e below (T26.setTop (mkF m 38 #[.val (.int p1), .val (.int (8 : Int32)), .val (.ref a_DURATION), .val (.int (0 : Int32))] [])) _
      refine XS.aloadN X26.here hx rfl (hb hby at_38) rfl rfl ?_
      show Steps p.tables e below (T26.setTop (mkF m 39 #[.val (.int p1), .val (.int (8 : Int32)), .val (.ref a_DURATION), .val (.int (0 : Int32))] [(.ref a_DURATION)])) _
      refine st27.trans ?_
      show Steps p.tables e below (T27.setTop (mkF m 42 #[.val (.int p1), .val (.int (8 : Int32)), .val (.ref a_DURATION), .val (.int (0 : Int32))] [(.int (0 : Int32))])) _
      refine XS.iloadN X27.here hx rfl (hb hby at_42) rfl ?_
      show Steps p.tables e below (T27.setTop (mkF m 43 #[.val (.int p1), .val (.int (8 : Int32)), .val (.ref a_DURATION), .val (.int (0 : Int32))] [(.int (0 : Int32)), (.int (0 : Int32))])) _
      refine XS.icmpNo X27.here hx rfl (hb hby at_43) rfl (teq ((by decide) : (0 : Int32) = (0 : Int32))).2 ?_
      show Steps p.tables e below (T27.setTop (mkF m 46 #[.val (.int p1), .val (.int (8 : Int32)), .val (.ref a_DURATION), .val (.int (0 : Int32))] [])) _
      refine XS.iconst X27.here hx rfl (hb hby at_46) ?_
      show Steps p.tables e below (T27.setTop (mkF m 47 #[.val (.int p1), .val (.int (8 : Int32)), .val (.ref a_DURATION), .val (.int (0 : Int32))] [(.int (1 : Int32))])) _
      refine XS.goto X27.here hx rfl (pc0 := 47) (pc' := 51) rfl (hb hby at_47) (by decide) (by decide) ?_
      exact k)
    obtain ⟨fs, hr, hrun, hended, hW, hsame⟩ := X27.leave (v := some (.int (nar .boolean (1 : Int32)))) (fun h => by rw [Bd.returns] at h; cases h)
    refine ⟨_, _, pre28 _ ?_, hrun, hended, _, _, rfl, ?_, ⟨_, rfl⟩, hW, hsame.mono (by decide) (by decide)⟩
    · show Steps p.tables e below (T27.setTop (mkF m 51 #[.val (.int p1), .val (.int (8 : Int32)), .val (.ref a_DURATION), .val (.int (0 : Int32))] [(.int (1 : Int32))])) _
      exact retN X27 hx (t := .boolean) Bd.returns (by simp) (hb hby at_51) hr
    · show QL n0 _ T27.heap _
      rw [e27]
      exact ⟨rfl, N27⟩
set_option maxRecDepth 65536 in
set_option maxHeartbeats 40000000 in
theorem comes_1 {Post : Tables → Env → Array Value → State → Outcome → State → Prop} (hpost : ∀ tb e args s v u, (limb_1_1.after args s (.returned v) u = true ∧ limb_1_2.after args s (.returned v) u = true ∧ True) → FrameEnd s (.returned v) u (Jvm.fieldLocs frame_1_writes args s ++ Jvm.arrayLocs frame_1_arrays args s ++ Jvm.staticLocs frame_1_statics s) 0 0 → Post tb e args s (.returned v) u) :
    ArmFor flags0 classFile x code maxLocals ret World_1 tables_1 room_1 Calls_1 rest_1 Pre_1 Post := by
  intro l hfl _ _ p e ha hc hk s m args below hf hA hF happ hP
  obtain ⟨hcalls, hrest, hpre⟩ := hP
  obtain ⟨-, -, -, hnamed, -, -, -, hat⟩ := (Spec.applies_iff hf).mp happ
  obtain ⟨hg, hn⟩ := and_e (Cond.before_iff.mp (show (Jvm.Cond.and given_1 narrow_1).before args s = true from hpre))
  obtain ⟨gc, gr0⟩ := and_e hg
  have ga0 := gr0
  obtain ⟨w0, rfl⟩ : ∃ w0 : Value, args = #[w0] := by
    have hs : args.size = 1 := by simpa [Cond.value, given_1] using gc
    obtain ⟨L⟩ := args
    match L, hs with
    | [w0], _ => exact ⟨w0, rfl⟩
  have hw := fun d (hd : d ∈ tables_1) => atoms_spec (ws := Jvm.Cond.code x code maxLocals ret :: tables_1) hat d (List.mem_cons_of_mem _ hd)
  have hfit : Fit s := fun {y c} hc i hi => by
    obtain ⟨ha, rfl⟩ := Array.getElem?_eq_some_iff.mp hc
    have q := List.all_eq_true.mp ((Array.all_eq_true_iff_forall_mem.mp hF) _ (Array.getElem_mem ha)) i (List.mem_range.mpr hi)
    simpa [Array.getElem?_eq_getElem hi] using q
  obtain ⟨i0, ei0⟩ := is_v ga0
  obtain rfl : w0 = (.int i0) := Option.some.inj ei0
  obtain ⟨c0, r0⟩ := and_e hn
  obtain ⟨c1, r1⟩ := and_e r0
  obtain ⟨c2, r2⟩ := and_e r1
  obtain ⟨c3, r3⟩ := and_e r2
  obtain ⟨c4, r4⟩ := and_e r3
  obtain ⟨c5, r5⟩ := and_e r4
  obtain ⟨c6, r6⟩ := and_e r5
  obtain ⟨c7, r7⟩ := and_e r6
  have c8 := r7
  obtain ⟨a_DATE_TIME, ea_DATE_TIME⟩ := exa_v c0
  have S_DATE_TIME := Sta.start ea_DATE_TIME (Or.inr ⟨(hw _ (List.mem_of_getElem? (i := 6) rfl)), (hw _ (List.mem_of_getElem? (i := 7) rfl))⟩)
  have E_DATE_TIME := Exa.start ea_DATE_TIME c0
  obtain ⟨a_G_YEAR_MONTH, ea_G_YEAR_MONTH⟩ := exa_v c1
  have S_G_YEAR_MONTH := Sta.start ea_G_YEAR_MONTH (Or.inr ⟨(hw _ (List.mem_of_getElem? (i := 6) rfl)), (hw _ (List.mem_of_getElem? (i := 15) rfl))⟩)
  have E_G_YEAR_MONTH := Exa.start ea_G_YEAR_MONTH c1
  obtain ⟨a_DATE, ea_DATE⟩ := exa_v c2
  have S_DATE := Sta.start ea_DATE (Or.inr ⟨(hw _ (List.mem_of_getElem? (i := 6) rfl)), (hw _ (List.mem_of_getElem? (i := 18) rfl))⟩)
  have E_DATE := Exa.start ea_DATE c2
  obtain ⟨a_TIME, ea_TIME⟩ := exa_v c3
  have S_TIME := Sta.start ea_TIME (Or.inr ⟨(hw _ (List.mem_of_getElem? (i := 6) rfl)), (hw _ (List.mem_of_getElem? (i := 21) rfl))⟩)
  have E_TIME := Exa.start ea_TIME c3
  obtain ⟨a_G_YEAR, ea_G_YEAR⟩ := exa_v c4
  have S_G_YEAR := Sta.start ea_G_YEAR (Or.inr ⟨(hw _ (List.mem_of_getElem? (i := 6) rfl)), (hw _ (List.mem_of_getElem? (i := 24) rfl))⟩)
  have E_G_YEAR := Exa.start ea_G_YEAR c4
  obtain ⟨a_G_MONTH, ea_G_MONTH⟩ := exa_v c5
  have S_G_MONTH := Sta.start ea_G_MONTH (Or.inr ⟨(hw _ (List.mem_of_getElem? (i := 6) rfl)), (hw _ (List.mem_of_getElem? (i := 28) rfl))⟩)
  have E_G_MONTH := Exa.start ea_G_MONTH c5
  obtain ⟨a_DURATION, ea_DURATION⟩ := exa_v c6
  have S_DURATION := Sta.start ea_DURATION (Or.inr ⟨(hw _ (List.mem_of_getElem? (i := 6) rfl)), (hw _ (List.mem_of_getElem? (i := 33) rfl))⟩)
  have E_DURATION := Exa.start ea_DURATION c6
  obtain ⟨a_G_DAY, ea_G_DAY⟩ := exa_v c7
  have S_G_DAY := Sta.start ea_G_DAY (Or.inr ⟨(hw _ (List.mem_of_getElem? (i := 6) rfl)), (hw _ (List.mem_of_getElem? (i := 36) rfl))⟩)
  have E_G_DAY := Exa.start ea_G_DAY c7
  obtain ⟨a_G_MONTH_DAY, ea_G_MONTH_DAY⟩ := exa_v c8
  have S_G_MONTH_DAY := Sta.start ea_G_MONTH_DAY (Or.inr ⟨(hw _ (List.mem_of_getElem? (i := 6) rfl)), (hw _ (List.mem_of_getElem? (i := 39) rfl))⟩)
  have E_G_MONTH_DAY := Exa.start ea_G_MONTH_DAY c8
  obtain ⟨n, o, h1, h2, h3, _, L, rfl, ⟨rfl, N⟩, hq⟩ := rm0 l s _ hw tables_1 i0 a_DATE_TIME a_G_YEAR_MONTH a_DATE a_TIME a_G_YEAR a_G_MONTH a_DURATION a_G_DAY a_G_MONTH_DAY s.heap s.heap.size (Nat.le_refl _) S_DATE_TIME E_DATE_TIME S_G_YEAR_MONTH E_G_YEAR_MONTH S_DATE E_DATE S_TIME E_TIME S_G_YEAR E_G_YEAR S_G_MONTH E_G_MONTH S_DURATION E_DURATION S_G_DAY E_G_DAY S_G_MONTH_DAY E_G_MONTH_DAY p e ha hc hk s m _ below hf ((Spec.applies_iff_loose hf).mp happ).1 ⟨rfl, State.Warmed39.refl s, rfl⟩ trivial
  refine ⟨n, _, h1, h2, h3, hpost _ _ _ _ _ _ ⟨Cond.after_iff.mpr rfl, Cond.after_iff.mpr (eq_i res_at (Term.int_eval (1)) rfl), trivial⟩ ⟨hq.1, hq.2.1, (hq.2.2.sift fun y hy => Or.inr (N y hy)).mono (by decide) (by decide)⟩⟩
theorem main_1_1 : Claimed_1_1 := comes_1 fun _ _ _ _ _ _ h hF => ⟨h.1, hF⟩
theorem main_1_2 : Claimed_1_2 := comes_1 fun _ _ _ _ _ _ h hF => ⟨h.2.1, hF⟩
end Jvm.Pilot.@@N@@
namespace Jvm.Pilot.@@N@@
open Jvm Jvm.ClassFile Sem Op Lib Jvm.Free Jvm.Stand Jvm.Pilot.@@N@@.Jvm.D
/-! MADE BY PROGRAM (witnessworld.py) out of the Statement's table words and the real class files: 22 classes; the members and pool entries that the words name. The judged class is class 1, her method 1. -/
namespace start1
open Jvm.ClassFile
def u (s : String) : CpInfo := .utf8 (stringToUtf16 s)
/-- a pool by its gaps: so many unusable entries, then the entry; so many at the end -/
def gap : Nat → List CpInfo → List CpInfo
  | 0, r => r
  | n + 1, r => .unusable :: gap n r
def poolList (es : List (Nat × CpInfo)) (last : Nat) : List CpInfo := es.foldr (fun e r => gap e.1 (e.2 :: r)) (gap last [])
def pool (es : List (Nat × CpInfo)) (last : Nat) : Array CpInfo := ⟨poolList es last⟩
def fileOf (pool : Array CpInfo) (this : Nat) (attrs : Array Attribute := #[]) (ms : Array MethodInfo := #[]) (fl : Nat := 33) (sup : Nat := 0) (ifs : Array Nat := #[]) (fds : Array FieldInfo := #[]) : ClassFile where
  minorVersion := 0
  majorVersion := 65
  constantPool := pool
  accessFlags := fl
  thisClass := this
  superClass := sup
  interfaces := ifs
  fields := fds
  methods := ms
  attributes := attrs
def plain (name : String) (sup : Option ClassId) : Class where
  name := name
  kind := .ordinary
  loader := none
  accessFlags := 33
  super := sup
  interfaces := #[]
  cf := none
  fields := #[]
  methods := #[]
  instanceTypes := #[]
  staticTypes := #[]
  resolved := #[]
  callSites := []
  init := .initialized
  statics := none
  mirror := none

def pool0 : Array CpInfo := pool [(5, u "<init>"), (0, u "()V"), (1, .class_ 10), (1, u "java/lang/Object")] 113

def k0m0 : Method := { name := "<init>", desc := "()V", sig := { parameters := [], returnType := none }, accessFlags := 1, code := none }
/-- java/lang/Object -/
def k0 : Class := { plain "java/lang/Object" none with
  accessFlags := 33
  interfaces := #[]
  cf := some (fileOf pool0 8 #[] #[{ accessFlags := 1, nameIndex := 5, descriptorIndex := 6, attributes := #[] }] 33 0 #[] #[])
  fields := #[]
  methods := #[k0m0]
  instanceTypes := #[]
  staticTypes := #[]
  resolved := Array.replicate 124 none
  statics := none }

def pool1 : Array CpInfo := pool [(2, .class_ 4), (1, u "java/lang/Object"), (0, u "<init>"), (0, u "()V"), (0, .integer 2147483647), (0, .methodref 9 10), (0, .class_ 11), (0, .nameAndType 12 13), (0, u "com/example/datewarden/datewarden/XmlSchemaTypeTakesDurationsPinLaw"), (0, u "pick"), (0, u "(I)Lcom/example/datewarden/datewarden/XmlSchemaType;"), (0, .methodref 15 16), (0, .class_ 17), (0, .nameAndType 18 19), (0, u "com/example/datewarden/datewarden/XmlSchemaType"), (0, u "takesDurations"), (0, u "()Z"), (0, .fieldref 15 21), (0, .nameAndType 22 23), (0, u "DATE_TIME"), (0, u "Lcom/example/datewarden/datewarden/XmlSchemaType;"), (0, .fieldref 15 25), (0, .nameAndType 26 23), (0, u "DATE"), (0, .fieldref 15 28), (0, .nameAndType 29 23), (0, u "TIME"), (0, .fieldref 15 31), (0, .nameAndType 32 23), (0, u "G_YEAR_MONTH"), (0, .fieldref 15 34), (0, .nameAndType 35 23), (0, u "G_YEAR"), (0, .fieldref 15 37), (0, .nameAndType 38 23), (0, u "G_MONTH_DAY"), (0, .fieldref 15 40), (0, .nameAndType 41 23), (0, u "G_DAY"), (0, .fieldref 15 43), (0, .nameAndType 44 23), (0, u "G_MONTH"), (0, .fieldref 15 46), (0, .nameAndType 47 23), (0, u "DURATION"), (2, u "law"), (0, u "(I)Z")] 3

def k1m0 : Method := { name := "<init>", desc := "()V", sig := { parameters := [], returnType := none }, accessFlags := 1, code := none }
def k1c1 : Code := { maxStack := 2, maxLocals := 4, code := code, exceptionTable := #[], attributes := #[] }
def k1m1 : Method := { name := "law", desc := "(I)Z", sig := { parameters := [.int], returnType := some .boolean }, accessFlags := 9, code := some k1c1 }
def k1c2 : Code := { maxStack := 2, maxLocals := 1, code := method_3_code, exceptionTable := #[], attributes := #[] }
def k1m2 : Method := { name := "pick", desc := "(I)Lcom/example/datewarden/datewarden/XmlSchemaType;", sig := { parameters := [.int], returnType := some (.object "com/example/datewarden/datewarden/XmlSchemaType") }, accessFlags := 10, code := some k1c2 }
/-- com/example/datewarden/datewarden/XmlSchemaTypeTakesDurationsPinLaw -/
def k1 : Class := { plain "com/example/datewarden/datewarden/XmlSchemaTypeTakesDurationsPinLaw" (some 0) with
  accessFlags := 49
  interfaces := #[]
  cf := some (fileOf pool1 9 #[] #[{ accessFlags := 1, nameIndex := 5, descriptorIndex := 6, attributes := #[] }, { accessFlags := 9, nameIndex := 50, descriptorIndex := 51, attributes := #[] }, { accessFlags := 10, nameIndex := 12, descriptorIndex := 13, attributes := #[] }] 49 2 #[] #[])
  fields := #[]
  methods := #[k1m0, k1m1, k1m2]
  instanceTypes := #[]
  staticTypes := #[]
  resolved := Array.replicate 55 none
  statics := none }

def pool2 : Array CpInfo := pool [(1, .class_ 2), (0, u "java/lang/constant/Constable"), (0, .class_ 4), (0, u "java/lang/Object")] 6

/-- java/lang/constant/Constable -/
def k2 : Class := { plain "java/lang/constant/Constable" (some 0) with
  accessFlags := 1537
  interfaces := #[]
  cf := some (fileOf pool2 1 #[] #[] 1537 3 #[] #[])
  fields := #[]
  methods := #[]
  instanceTypes := #[]
  staticTypes := #[]
  resolved := Array.replicate 11 none
  statics := none }

def pool3 : Array CpInfo := pool [(1, .class_ 2), (0, u "java/lang/Comparable"), (0, .class_ 4), (0, u "java/lang/Object")] 7

/-- java/lang/Comparable -/
def k3 : Class := { plain "java/lang/Comparable" (some 0) with
  accessFlags := 1537
  interfaces := #[]
  cf := some (fileOf pool3 1 #[] #[] 1537 3 #[] #[])
  fields := #[]
  methods := #[]
  instanceTypes := #[]
  staticTypes := #[]
  resolved := Array.replicate 12 none
  statics := none }

def pool4 : Array CpInfo := pool [(1, .class_ 2), (0, u "java/io/Serializable"), (0, .class_ 4), (0, u "java/lang/Object")] 2

/-- java/io/Serializable -/
def k4 : Class := { plain "java/io/Serializable" (some 0) with
  accessFlags := 1537
  interfaces := #[]
  cf := some (fileOf pool4 1 #[] #[] 1537 3 #[] #[])
  fields := #[]
  methods := #[]
  instanceTypes := #[]
  staticTypes := #[]
  resolved := Array.replicate 7 none
  statics := none }

def pool5 : Array CpInfo := pool [(2, .class_ 4), (1, u "java/lang/Enum"), (0, u "name"), (0, u "Ljava/lang/String;"), (2, u "ordinal"), (0, u "I"), (1, .class_ 14), (1, u "java/lang/Object"), (4, u "hash"), (86, .class_ 108), (1, u "java/lang/Enum$EnumDesc"), (2, .class_ 112), (0, u "java/lang/constant/Constable"), (0, .class_ 114), (0, u "java/lang/Comparable"), (0, .class_ 116), (0, u "java/io/Serializable")] 87

/-- java/lang/Enum -/
def k5 : Class := { plain "java/lang/Enum" (some 0) with
  accessFlags := 1057
  interfaces := #[2, 3, 4]
  cf := some (fileOf pool5 2 #[.nestMembers #[106]] #[] 1057 12 #[111, 113, 115] #[{ accessFlags := 18, nameIndex := 5, descriptorIndex := 6, attributes := #[] }, { accessFlags := 18, nameIndex := 9, descriptorIndex := 10, attributes := #[] }, { accessFlags := 2, nameIndex := 19, descriptorIndex := 10, attributes := #[] }])
  fields := #[{ name := "name", type := (.object "java/lang/String"), accessFlags := 18, slot := 0, constantValue := 0 }, { name := "ordinal", type := .int, accessFlags := 18, slot := 1, constantValue := 0 }, { name := "hash", type := .int, accessFlags := 2, slot := 2, constantValue := 0 }]
  methods := #[]
  instanceTypes := #[(.object "java/lang/String"), .int, .int]
  staticTypes := #[]
  resolved := Array.replicate 204 none
  statics := none }

def pool6 : Array CpInfo := pool [(1, .class_ 2), (0, u "com/example/datewarden/datewarden/Datatype"), (0, .class_ 4), (0, u "java/lang/Object")] 6

/-- com/example/datewarden/datewarden/Datatype -/
def k6 : Class := { plain "com/example/datewarden/datewarden/Datatype" (some 0) with
  accessFlags := 1537
  interfaces := #[]
  cf := some (fileOf pool6 1 #[] #[] 1537 3 #[] #[])
  fields := #[]
  methods := #[]
  instanceTypes := #[]
  staticTypes := #[]
  resolved := Array.replicate 11 none
  statics := none }

def pool7 : Array CpInfo := pool [(3, .class_ 4), (0, u "com/example/datewarden/datewarden/XmlSchemaType"), (0, .fieldref 3 6), (0, .nameAndType 7 8), (0, u "DATE_TIME"), (0, u "Lcom/example/datewarden/datewarden/XmlSchemaType;"), (0, .fieldref 3 10), (0, .nameAndType 11 8), (0, u "DATE"), (2, u "TIME"), (0, .fieldref 3 16), (0, .nameAndType 17 8), (0, u "G_YEAR_MONTH"), (0, .fieldref 3 19), (0, .nameAndType 20 8), (0, u "G_YEAR"), (2, u "G_MONTH_DAY"), (2, u "G_DAY"), (2, u "G_MONTH"), (2, u "DURATION"), (2, u "$VALUES"), (0, u "[Lcom/example/datewarden/datewarden/XmlSchemaType;"), (6, .class_ 45), (1, u "java/lang/Enum"), (8, u "typeName"), (0, u "Ljava/lang/String;"), (11, .class_ 69), (1, u "com/example/datewarden/datewarden/XmlSchemaType$FacetTest"), (56, u "()Z"), (159, .class_ 287), (0, u "com/example/datewarden/datewarden/XmlSchemaType$1"), (6, .class_ 295), (0, u "com/example/datewarden/datewarden/XmlSchemaType$2"), (4, .class_ 301), (0, u "com/example/datewarden/datewarden/XmlSchemaType$3"), (4, .class_ 307), (0, u "com/example/datewarden/datewarden/XmlSchemaType$4"), (4, .class_ 313), (0, u "com/example/datewarden/datewarden/XmlSchemaType$5"), (4, .class_ 319), (0, u "com/example/datewarden/datewarden/XmlSchemaType$6"), (4, .class_ 325), (0, u "com/example/datewarden/datewarden/XmlSchemaType$7"), (4, .class_ 331), (0, u "com/example/datewarden/datewarden/XmlSchemaType$8"), (4, .class_ 337), (0, u "com/example/datewarden/datewarden/XmlSchemaType$9"), (8, .class_ 347), (0, u "com/example/datewarden/datewarden/Datatype"), (0, u "FIRST"), (1, u "SECOND"), (0, u "ZONE_REQUIRED"), (0, u "ZONE_NOT_ALLOWED"), (8, u "takesDurations")] 35

def k7c0 : Code := { maxStack := 2, maxLocals := 1, code := prog_42_method_9_code, exceptionTable := #[], attributes := #[] }
def k7m0 : Method := { name := "takesDurations", desc := "()Z", sig := { parameters := [], returnType := some .boolean }, accessFlags := 0, code := some k7c0 }
/-- com/example/datewarden/datewarden/XmlSchemaType -/
def k7 : Class := { plain "com/example/datewarden/datewarden/XmlSchemaType" (some 5) with
  accessFlags := 16417
  interfaces := #[6]
  cf := some (fileOf pool7 3 #[.nestMembers #[67, 336, 330, 324, 318, 312, 306, 300, 294, 286]] #[{ accessFlags := 0, nameIndex := 361, descriptorIndex := 126, attributes := #[] }] 16417 43 #[346] #[{ accessFlags := 16409, nameIndex := 7, descriptorIndex := 8, attributes := #[] }, { accessFlags := 16409, nameIndex := 11, descriptorIndex := 8, attributes := #[] }, { accessFlags := 16409, nameIndex := 14, descriptorIndex := 8, attributes := #[] }, { accessFlags := 16409, nameIndex := 17, descriptorIndex := 8, attributes := #[] }, { accessFlags := 16409, nameIndex := 20, descriptorIndex := 8, attributes := #[] }, { accessFlags := 16409, nameIndex := 23, descriptorIndex := 8, attributes := #[] }, { accessFlags := 16409, nameIndex := 26, descriptorIndex := 8, attributes := #[] }, { accessFlags := 16409, nameIndex := 29, descriptorIndex := 8, attributes := #[] }, { accessFlags := 16409, nameIndex := 32, descriptorIndex := 8, attributes := #[] }, { accessFlags := 26, nameIndex := 348, descriptorIndex := 55, attributes := #[] }, { accessFlags := 26, nameIndex := 350, descriptorIndex := 55, attributes := #[] }, { accessFlags := 26, nameIndex := 351, descriptorIndex := 55, attributes := #[] }, { accessFlags := 26, nameIndex := 352, descriptorIndex := 55, attributes := #[] }, { accessFlags := 18, nameIndex := 54, descriptorIndex := 55, attributes := #[] }, { accessFlags := 4122, nameIndex := 35, descriptorIndex := 36, attributes := #[] }])
  fields := #[{ name := "DATE_TIME", type := (.object "com/example/datewarden/datewarden/XmlSchemaType"), accessFlags := 16409, slot := 0, constantValue := 0 }, { name := "DATE", type := (.object "com/example/datewarden/datewarden/XmlSchemaType"), accessFlags := 16409, slot := 1, constantValue := 0 }, { name := "TIME", type := (.object "com/example/datewarden/datewarden/XmlSchemaType"), accessFlags := 16409, slot := 2, constantValue := 0 }, { name := "G_YEAR_MONTH", type := (.object "com/example/datewarden/datewarden/XmlSchemaType"), accessFlags := 16409, slot := 3, constantValue := 0 }, { name := "G_YEAR", type := (.object "com/example/datewarden/datewarden/XmlSchemaType"), accessFlags := 16409, slot := 4, constantValue := 0 }, { name := "G_MONTH_DAY", type := (.object "com/example/datewarden/datewarden/XmlSchemaType"), accessFlags := 16409, slot := 5, constantValue := 0 }, { name := "G_DAY", type := (.object "com/example/datewarden/datewarden/XmlSchemaType"), accessFlags := 16409, slot := 6, constantValue := 0 }, { name := "G_MONTH", type := (.object "com/example/datewarden/datewarden/XmlSchemaType"), accessFlags := 16409, slot := 7, constantValue := 0 }, { name := "DURATION", type := (.object "com/example/datewarden/datewarden/XmlSchemaType"), accessFlags := 16409, slot := 8, constantValue := 0 }, { name := "FIRST", type := (.object "java/lang/String"), accessFlags := 26, slot := 9, constantValue := 0 }, { name := "SECOND", type := (.object "java/lang/String"), accessFlags := 26, slot := 10, constantValue := 0 }, { name := "ZONE_REQUIRED", type := (.object "java/lang/String"), accessFlags := 26, slot := 11, constantValue := 0 }, { name := "ZONE_NOT_ALLOWED", type := (.object "java/lang/String"), accessFlags := 26, slot := 12, constantValue := 0 }, { name := "typeName", type := (.object "java/lang/String"), accessFlags := 18, slot := 3, constantValue := 0 }, { name := "$VALUES", type := (.array (.object "com/example/datewarden/datewarden/XmlSchemaType")), accessFlags := 4122, slot := 13, constantValue := 0 }]
  methods := #[k7m0]
  instanceTypes := #[(.object "java/lang/String"), .int, .int, (.object "java/lang/String")]
  staticTypes := #[(.object "com/example/datewarden/datewarden/XmlSchemaType"), (.object "com/example/datewarden/datewarden/XmlSchemaType"), (.object "com/example/datewarden/datewarden/XmlSchemaType"), (.object "com/example/datewarden/datewarden/XmlSchemaType"), (.object "com/example/datewarden/datewarden/XmlSchemaType"), (.object "com/example/datewarden/datewarden/XmlSchemaType"), (.object "com/example/datewarden/datewarden/XmlSchemaType"), (.object "com/example/datewarden/datewarden/XmlSchemaType"), (.object "com/example/datewarden/datewarden/XmlSchemaType"), (.object "java/lang/String"), (.object "java/lang/String"), (.object "java/lang/String"), (.object "java/lang/String"), (.array (.object "com/example/datewarden/datewarden/XmlSchemaType"))]
  resolved := Array.replicate 397 none
  statics := some 0 }

def pool8 : Array CpInfo := pool [(2, .class_ 4), (1, u "com/example/datewarden/datewarden/XmlSchemaType"), (28, .class_ 34), (0, u "com/example/datewarden/datewarden/XmlSchemaType$1")] 13

/-- com/example/datewarden/datewarden/XmlSchemaType$1 -/
def k8 : Class := { plain "com/example/datewarden/datewarden/XmlSchemaType$1" (some 7) with
  accessFlags := 16432
  interfaces := #[]
  cf := some (fileOf pool8 33 #[.nestHost 2] #[] 16432 2 #[] #[])
  fields := #[]
  methods := #[]
  instanceTypes := #[(.object "java/lang/String"), .int, .int, (.object "java/lang/String")]
  staticTypes := #[]
  resolved := Array.replicate 48 none
  statics := none }

def pool9 : Array CpInfo := pool [(2, .class_ 4), (1, u "com/example/datewarden/datewarden/XmlSchemaType"), (25, .class_ 31), (0, u "com/example/datewarden/datewarden/XmlSchemaType$4")] 15

/-- com/example/datewarden/datewarden/XmlSchemaType$4 -/
def k9 : Class := { plain "com/example/datewarden/datewarden/XmlSchemaType$4" (some 7) with
  accessFlags := 16432
  interfaces := #[]
  cf := some (fileOf pool9 30 #[.nestHost 2] #[] 16432 2 #[] #[])
  fields := #[]
  methods := #[]
  instanceTypes := #[(.object "java/lang/String"), .int, .int, (.object "java/lang/String")]
  staticTypes := #[]
  resolved := Array.replicate 47 none
  statics := none }

def pool10 : Array CpInfo := pool [(2, .class_ 4), (1, u "com/example/datewarden/datewarden/XmlSchemaType"), (11, .class_ 17), (0, u "com/example/datewarden/datewarden/XmlSchemaType$3")] 15

/-- com/example/datewarden/datewarden/XmlSchemaType$3 -/
def k10 : Class := { plain "com/example/datewarden/datewarden/XmlSchemaType$3" (some 7) with
  accessFlags := 16432
  interfaces := #[]
  cf := some (fileOf pool10 16 #[.nestHost 2] #[] 16432 2 #[] #[])
  fields := #[]
  methods := #[]
  instanceTypes := #[(.object "java/lang/String"), .int, .int, (.object "java/lang/String")]
  staticTypes := #[]
  resolved := Array.replicate 33 none
  statics := none }

def pool11 : Array CpInfo := pool [(2, .class_ 4), (1, u "com/example/datewarden/datewarden/XmlSchemaType"), (10, .class_ 16), (0, u "com/example/datewarden/datewarden/XmlSchemaType$2")] 13

/-- com/example/datewarden/datewarden/XmlSchemaType$2 -/
def k11 : Class := { plain "com/example/datewarden/datewarden/XmlSchemaType$2" (some 7) with
  accessFlags := 16432
  interfaces := #[]
  cf := some (fileOf pool11 15 #[.nestHost 2] #[] 16432 2 #[] #[])
  fields := #[]
  methods := #[]
  instanceTypes := #[(.object "java/lang/String"), .int, .int, (.object "java/lang/String")]
  staticTypes := #[]
  resolved := Array.replicate 30 none
  statics := none }

def pool12 : Array CpInfo := pool [(2, .class_ 4), (1, u "com/example/datewarden/datewarden/XmlSchemaType"), (21, .class_ 27), (0, u "com/example/datewarden/datewarden/XmlSchemaType$8")] 15

/-- com/example/datewarden/datewarden/XmlSchemaType$8 -/
def k12 : Class := { plain "com/example/datewarden/datewarden/XmlSchemaType$8" (some 7) with
  accessFlags := 16432
  interfaces := #[]
  cf := some (fileOf pool12 26 #[.nestHost 2] #[] 16432 2 #[] #[])
  fields := #[]
  methods := #[]
  instanceTypes := #[(.object "java/lang/String"), .int, .int, (.object "java/lang/String")]
  staticTypes := #[]
  resolved := Array.replicate 43 none
  statics := none }

def pool13 : Array CpInfo := pool [(2, .class_ 4), (1, u "com/example/datewarden/datewarden/XmlSchemaType"), (11, .class_ 17), (0, u "com/example/datewarden/datewarden/XmlSchemaType$5")] 15

/-- com/example/datewarden/datewarden/XmlSchemaType$5 -/
def k13 : Class := { plain "com/example/datewarden/datewarden/XmlSchemaType$5" (some 7) with
  accessFlags := 16432
  interfaces := #[]
  cf := some (fileOf pool13 16 #[.nestHost 2] #[] 16432 2 #[] #[])
  fields := #[]
  methods := #[]
  instanceTypes := #[(.object "java/lang/String"), .int, .int, (.object "java/lang/String")]
  staticTypes := #[]
  resolved := Array.replicate 33 none
  statics := none }

def pool14 : Array CpInfo := pool [(2, .class_ 4), (1, u "com/example/datewarden/datewarden/XmlSchemaType"), (11, .class_ 17), (0, u "com/example/datewarden/datewarden/XmlSchemaType$9")] 18

/-- com/example/datewarden/datewarden/XmlSchemaType$9 -/
def k14 : Class := { plain "com/example/datewarden/datewarden/XmlSchemaType$9" (some 7) with
  accessFlags := 16432
  interfaces := #[]
  cf := some (fileOf pool14 16 #[.nestHost 2] #[] 16432 2 #[] #[])
  fields := #[]
  methods := #[]
  instanceTypes := #[(.object "java/lang/String"), .int, .int, (.object "java/lang/String")]
  staticTypes := #[]
  resolved := Array.replicate 36 none
  statics := none }

def pool15 : Array CpInfo := pool [(2, .class_ 4), (1, u "com/example/datewarden/datewarden/XmlSchemaType"), (21, .class_ 27), (0, u "com/example/datewarden/datewarden/XmlSchemaType$7")] 15

/-- com/example/datewarden/datewarden/XmlSchemaType$7 -/
def k15 : Class := { plain "com/example/datewarden/datewarden/XmlSchemaType$7" (some 7) with
  accessFlags := 16432
  interfaces := #[]
  cf := some (fileOf pool15 26 #[.nestHost 2] #[] 16432 2 #[] #[])
  fields := #[]
  methods := #[]
  instanceTypes := #[(.object "java/lang/String"), .int, .int, (.object "java/lang/String")]
  staticTypes := #[]
  resolved := Array.replicate 43 none
  statics := none }

def pool16 : Array CpInfo := pool [(2, .class_ 4), (1, u "com/example/datewarden/datewarden/XmlSchemaType"), (28, .class_ 34), (0, u "com/example/datewarden/datewarden/XmlSchemaType$6")] 15

/-- com/example/datewarden/datewarden/XmlSchemaType$6 -/
def k16 : Class := { plain "com/example/datewarden/datewarden/XmlSchemaType$6" (some 7) with
  accessFlags := 16432
  interfaces := #[]
  cf := some (fileOf pool16 33 #[.nestHost 2] #[] 16432 2 #[] #[])
  fields := #[]
  methods := #[]
  instanceTypes := #[(.object "java/lang/String"), .int, .int, (.object "java/lang/String")]
  staticTypes := #[]
  resolved := Array.replicate 50 none
  statics := none }

def pool17 : Array CpInfo := pool [(1, u "java/lang/Cloneable"), (0, .class_ 1), (0, u "java/lang/Object"), (0, .class_ 3)] 3

/-- java/lang/Cloneable -/
def k17 : Class := { plain "java/lang/Cloneable" (some 0) with
  accessFlags := 1537
  interfaces := #[]
  cf := some (fileOf pool17 2 #[] #[] 1537 4 #[] #[])
  fields := #[]
  methods := #[]
  instanceTypes := #[]
  staticTypes := #[]
  resolved := Array.replicate 8 none
  statics := none }

/-- the primitive byte -/
def k18 : Class := { plain "byte" none with kind := .primitive 'B', accessFlags := 0x411 }
/-- [B -/
def k19 : Class := { plain "[B" (some 0) with kind := .array 18 .byte, interfaces := #[17, 4], accessFlags := 1041 }

/-- the primitive int -/
def k20 : Class := { plain "int" none with kind := .primitive 'I', accessFlags := 0x411 }
/-- [I -/
def k21 : Class := { plain "[I" (some 0) with kind := .array 20 .int, interfaces := #[17, 4], accessFlags := 1041 }

def heap : Heap := #[{ cls := 7, slots := #[.ref 1, .ref 3, .ref 4, .ref 2, .ref 5, .ref 9, .ref 8, .ref 6, .ref 7, .null, .null, .null, .null, .null], vm := .statics 7 },
  { cls := 8, slots := #[.null, .int 0, .int 0, .null], vm := .none },
  { cls := 9, slots := #[.null, .int 0, .int 0, .null], vm := .none },
  { cls := 11, slots := #[.null, .int 0, .int 0, .null], vm := .none },
  { cls := 10, slots := #[.null, .int 0, .int 0, .null], vm := .none },
  { cls := 13, slots := #[.null, .int 0, .int 0, .null], vm := .none },
  { cls := 12, slots := #[.null, .int 0, .int 0, .null], vm := .none },
  { cls := 14, slots := #[.null, .int 0, .int 0, .null], vm := .none },
  { cls := 15, slots := #[.null, .int 0, .int 0, .null], vm := .none },
  { cls := 16, slots := #[.null, .int 0, .int 0, .null], vm := .none }]
def classes : Array Class := #[k0, k1, k2, k3, k4, k5, k6, k7, k8, k9, k10, k11, k12, k13, k14, k15, k16, k17, k18, k19, k20, k21]
def interned : List (Array UInt16 × Addr) := []
def slotsUsed : Nat := 50
def theMethod : MethodId := ⟨1, 1⟩
def args0 : Array Value := #[.int 5]
def aboutOver (below : List Frame) : State where
  vm := { classes := classes, interned := interned.toArray }
  heap := heap
  slotsUsed := slotsUsed
  threads := #[{ frames := .invoking theMethod args0 :: below }]
def below0 : List Frame := [.native { method := ⟨0, 0⟩, args := #[] }]
def about1 : State := aboutOver below0
def p0 : Program := .bare "" "" ""
def e0 : Env := launch0.env 0 0 0
theorem w_frames : about1.frames = Frame.invoking theMethod args0 :: below0 := rfl
set_option maxRecDepth 65536 in
theorem w_args : argsFit about1.vm theMethod args0 = true := by decide +kernel
set_option maxRecDepth 65536 in
theorem w_heap : heapFits about1 = true := by decide +kernel
set_option maxRecDepth 65536 in
theorem w_runnable : about1.curStatus? = some .runnable := by decide +kernel
set_option maxRecDepth 65536 in
theorem w_alone : about1.alone = true := by decide +kernel
set_option maxRecDepth 65536 in
theorem w_named : about1.methodNamed? x = some theMethod := by decide +kernel
set_option maxRecDepth 65536 in
theorem w_hears : about1.hears theMethod below0 = true := by decide +kernel
set_option maxRecDepth 65536 in
theorem w_ripe : about1.ripe theMethod args0 below0 = true := by decide +kernel
theorem w_running : about1.status = .running := rfl
set_option maxRecDepth 65536 in
theorem w_room : about1.hasRoom e0.platform room_1 = true :=
  launch0.hasRoom_least _ room_1 (by decide +kernel) (by decide +kernel) (by decide +kernel) (by decide +kernel) (by decide +kernel) (by decide +kernel)
theorem allAtoms_all (ts : List Jvm.Cond) (a : Array Jvm.Value) (st : Jvm.State) : (allAtoms ts).before a st = ts.all (fun c => c.before a st) := by
  induction ts with
  | nil => rfl
  | cons c t ih =>
    show (Jvm.Cond.and c (allAtoms t)).before a st = _
    rw [Jvm.Cond.before_and, ih, List.all_cons]
def words1 : List Jvm.Cond := Jvm.Cond.code x code maxLocals ret :: tables_1
/-- a 'code' word, met by the world's own term for the bytes: nothing is compared byte by byte -/
theorem code_word {y : MethodName} {bytes : ByteArray} {mx : Nat} {rt : Option FieldType} {a : Array Value} {s : State} {m : MethodId} {meth : Method} {c : Code} (h1 : s.methodNamed? y = some m) (h2 : s.vm.method? m = some meth) (h3 : meth.code = some c) (h4 : c.code = bytes)
    (h5 : (c.maxLocals == mx && c.exceptionTable.isEmpty && decide (c.maxStack ≤ mostOperands) && decide (meth.sig.returnType = rt) && !meth.locks && decide (parseMethodDescriptor y.desc = some meth.sig)) = true) : (Jvm.Cond.code y bytes mx rt).before a s = true := by
  simp only [Bool.and_eq_true, beq_iff_eq, Bool.not_eq_true', decide_eq_true_eq] at h5
  obtain ⟨⟨⟨⟨⟨g1, g2⟩, g3⟩, g4⟩, g5⟩, g6⟩ := h5
  simp [Cond.before, Cond.holds, Cond.value, h1, h2, h3, h4, g1, g2, g3, g4, g5, g6]
def isCode : Jvm.Cond → Bool
  | .code _ _ _ _ => true
  | _ => false
theorem all_split {L : List Jvm.Cond} {P : Jvm.Cond → Bool} (h1 : L.all (fun c => isCode c || P c) = true) (h2 : ∀ c ∈ L.filter isCode, P c = true) : L.all P = true := by
  refine List.all_eq_true.mpr fun c hc => ?_
  have h := List.all_eq_true.mp h1 c hc
  rcases Bool.eq_false_or_eq_true (isCode c) with hi | hi
  · exact h2 c (List.mem_filter.mpr ⟨hc, hi⟩)
  · simpa [hi] using h
set_option maxRecDepth 65536 in
theorem w_c0 : (Jvm.Cond.code x code maxLocals ret).before args0 about1 = true := code_word (m := ⟨1, 1⟩) (meth := k1m1) (c := k1c1) (by decide +kernel) rfl rfl rfl (by decide +kernel)
set_option maxRecDepth 65536 in
theorem w_c1 : (Jvm.Cond.code ({ cls := "com/example/datewarden/datewarden/XmlSchemaTypeTakesDurationsPinLaw", name := "pick", desc := "(I)Lcom/example/datewarden/datewarden/XmlSchemaType;" } : Jvm.MethodName) method_3_code (1 : Nat) (Option.some (Jvm.ClassFile.FieldType.object "com/example/datewarden/datewarden/XmlSchemaType"))).before args0 about1 = true := code_word (m := ⟨1, 2⟩) (meth := k1m2) (c := k1c2) (by decide +kernel) rfl rfl rfl (by decide +kernel)
set_option maxRecDepth 65536 in
theorem w_c2 : (Jvm.Cond.code ({ cls := "com/example/datewarden/datewarden/XmlSchemaType", name := "takesDurations", desc := "()Z" } : Jvm.MethodName) prog_42_method_9_code (1 : Nat) (Option.some Jvm.ClassFile.FieldType.boolean)).before args0 about1 = true := code_word (m := ⟨7, 0⟩) (meth := k7m0) (c := k7c0) (by decide +kernel) rfl rfl rfl (by decide +kernel)
def codes1 : List Jvm.Cond := [Jvm.Cond.code x code maxLocals ret, Jvm.Cond.code ({ cls := "com/example/datewarden/datewarden/XmlSchemaTypeTakesDurationsPinLaw", name := "pick", desc := "(I)Lcom/example/datewarden/datewarden/XmlSchemaType;" } : Jvm.MethodName) method_3_code (1 : Nat) (Option.some (Jvm.ClassFile.FieldType.object "com/example/datewarden/datewarden/XmlSchemaType")), Jvm.Cond.code ({ cls := "com/example/datewarden/datewarden/XmlSchemaType", name := "takesDurations", desc := "()Z" } : Jvm.MethodName) prog_42_method_9_code (1 : Nat) (Option.some Jvm.ClassFile.FieldType.boolean)]
set_option maxRecDepth 65536 in
theorem codes_eq : words1.filter isCode = codes1 := rfl
theorem w_codes : ∀ c ∈ words1.filter isCode, c.before args0 about1 = true := by
  rw [codes_eq]
  intro c hc
  simp only [codes1, List.mem_cons, List.not_mem_nil, or_false] at hc
  rcases hc with rfl | rfl | rfl
  · exact w_c0
  · exact w_c1
  · exact w_c2
set_option maxRecDepth 65536 in
theorem w_t1 : (words1.take 24).all (fun c => isCode c || c.before args0 about1) = true := by decide +kernel
set_option maxRecDepth 65536 in
theorem w_t2 : (words1.drop 24).all (fun c => isCode c || c.before args0 about1) = true := by decide +kernel
theorem w_tables : (allAtoms (Jvm.Cond.code x code maxLocals ret :: tables_1)).before args0 about1 = true := by
  rw [allAtoms_all]
  show words1.all (fun c => c.before args0 about1) = true
  refine all_split ?_ w_codes
  rw [← List.take_append_drop 24 words1, List.all_append, w_t1, w_t2]
  rfl
set_option maxRecDepth 65536 in
theorem w_case : (Jvm.Cond.and given_1 narrow_1).before args0 about1 = true := by decide +kernel
theorem w_applies : (headSpec (Jvm.Cond.code x code maxLocals ret :: tables_1) room_1).applies x e0.platform about1 = true :=
  (Spec.applies_iff w_frames).mpr ⟨w_running, w_runnable, w_alone, w_named, w_hears, w_ripe, w_room, w_tables⟩
theorem atStart : AtStart classFile x code maxLocals ret World_1 tables_1 room_1 Calls_1 rest_1 Pre_1 launch0 p0 e0 about1 theMethod args0 below0 :=
  ⟨lists_1, trivial, launch0.admits_env _ _ _, launch0.least_env, fairChoices_fair.cas, fairChoices_fair.clock, w_frames, w_args, w_heap, w_applies, trivial, trivial, w_case⟩
end start1
theorem witness_1 : WitnessClaimed_1 := ⟨start1.p0, start1.e0, start1.about1, start1.theMethod, start1.args0, start1.below0, start1.atStart⟩
end Jvm.Pilot.@@N@@
