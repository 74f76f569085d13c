import JvmDerived
import JvmDerived.Pilot.@@N@@Statement
import JvmDerived.Pilot.@@N@@Code
set_option linter.unusedVariables false
set_option linter.unusedSimpArgs false
@@BLOCK:NumsL.lean.txt@@
namespace Jvm.RoadKit
open Sem ClassFile Op Lib Jvm.Stand Jvm.Free Jvm.LawKit
section New
variable {p : Program} {l : Launch} {e : Env} {R : Room} {s : State} {m : MethodId} {args : Array Value} {below : List Frame} {meth : Method} {c : Code} {T : State} {locs : List Loc} {cells slots : Nat}
theorem retI (X : Stand p l e R s m args below meth c T locs cells slots) (hx : p.tables.exec = Jvm.exec) {pc : Nat} {Ls : Array Slot} {z : Int32} {rest : List Value} (hret : meth.sig.returnType = some .int) (hd : decode c.code pc = .ok (.ireturn, 1)) {fs : List Frame}
    (hl : ∀ (f : JFrame) (acts : List Action), f.method = m → f.locked = none → f.entered = [] → (doReturn e (T.setTop f) acts (some (.int z))).1 = T.setFrames fs) : Steps p.tables e below (T.setTop (mkF m pc Ls (.int z :: rest))) (T.setFrames fs) := by
  have hm' : T.vm.method? m = some meth := X.method'
  have hn : narrow .int (.int z) = .int z := rfl
  show Steps p.tables e below (T.setTop { method := m, pc := pc, locals := Ls, stack := _ :: rest, locked := none }) _
  jvm_step X.here [X.here.top, hx, hd, hm', hret, hn]
  first | (intro acts; rw [hl _ acts rfl rfl rfl]) | rw [hl _ _ rfl rfl rfl]
  exact Steps.refl _
end New
end Jvm.RoadKit
namespace Jvm.Pilot.@@N@@
open Jvm Jvm.ClassFile Sem Op Lib Jvm.Free Jvm.Stand Jvm.LawKit Jvm.RoadKit Bundle Jvm.Pilot.@@N@@.Jvm.D
/-- a body that returns r, makes and writes nothing -/
def QP (r : Value) (h0 : Heap) (n0 : Nat) (v : Option Value) (h : Heap) (L : List Loc) : Prop := v = some r ∧ Fr n0 L ∧ h = h0
theorem own_d_prog_68_method_1_code_0 : decode prog_68_method_1_code 0 = .ok (.aload_n 0, 1) := by decide +kernel
theorem own_d_prog_68_method_1_code_1 : decode prog_68_method_1_code 1 = .ok (.invokespecial 1, 3) := by decide +kernel
theorem own_d_prog_68_method_1_code_4 : decode prog_68_method_1_code 4 = .ok (.aload_n 0, 1) := by decide +kernel
theorem own_d_prog_68_method_1_code_5 : decode prog_68_method_1_code 5 = .ok (.aload_n 1, 1) := by decide +kernel
theorem own_d_prog_68_method_1_code_6 : decode prog_68_method_1_code 6 = .ok (.putfield 7, 3) := by decide +kernel
theorem own_d_prog_68_method_1_code_9 : decode prog_68_method_1_code 9 = .ok (.aload_n 0, 1) := by decide +kernel
theorem own_d_prog_68_method_1_code_10 : decode prog_68_method_1_code 10 = .ok (.aload_n 2, 1) := by decide +kernel
theorem own_d_prog_68_method_1_code_11 : decode prog_68_method_1_code 11 = .ok (.putfield 13, 3) := by decide +kernel
theorem own_d_prog_68_method_1_code_14 : decode prog_68_method_1_code 14 = .ok (.aload_n 0, 1) := by decide +kernel
theorem own_d_prog_68_method_1_code_15 : decode prog_68_method_1_code 15 = .ok (.aload_n 3, 1) := by decide +kernel
theorem own_d_prog_68_method_1_code_16 : decode prog_68_method_1_code 16 = .ok (.putfield 16, 3) := by decide +kernel
theorem own_d_prog_68_method_1_code_19 : decode prog_68_method_1_code 19 = .ok (.aload_n 3, 1) := by decide +kernel
theorem own_d_prog_68_method_1_code_20 : decode prog_68_method_1_code 20 = .ok (.ifnonnull 11, 3) := by decide +kernel
theorem own_d_prog_68_method_1_code_23 : decode prog_68_method_1_code 23 = .ok (.aload_n 0, 1) := by decide +kernel
theorem own_d_prog_68_method_1_code_24 : decode prog_68_method_1_code 24 = .ok (.aconst_null, 1) := by decide +kernel
theorem own_d_prog_68_method_1_code_25 : decode prog_68_method_1_code 25 = .ok (.putfield 19, 3) := by decide +kernel
theorem own_d_prog_68_method_1_code_28 : decode prog_68_method_1_code 28 = .ok (.goto 50, 3) := by decide +kernel
theorem own_d_prog_68_method_1_code_78 : decode prog_68_method_1_code 78 = .ok (.return_, 1) := by decide +kernel
theorem own_d_prog_68_method_1_code_31 : decode prog_68_method_1_code 31 = .ok (.aload_n 0, 1) := by decide +kernel
theorem own_d_prog_68_method_1_code_32 : decode prog_68_method_1_code 32 = .ok (.aload_n 1, 1) := by decide +kernel
theorem own_d_prog_68_method_1_code_33 : decode prog_68_method_1_code 33 = .ok (.arraylength, 1) := by decide +kernel
theorem own_d_prog_68_method_1_code_34 : decode prog_68_method_1_code 34 = .ok (.newarray .int, 2) := by decide +kernel
theorem own_d_prog_68_method_1_code_36 : decode prog_68_method_1_code 36 = .ok (.putfield 19, 3) := by decide +kernel
theorem own_d_prog_68_method_1_code_39 : decode prog_68_method_1_code 39 = .ok (.iconst 1, 1) := by decide +kernel
theorem own_d_prog_68_method_1_code_40 : decode prog_68_method_1_code 40 = .ok (.istore 4, 2) := by decide +kernel
theorem own_d_prog_68_method_1_code_42 : decode prog_68_method_1_code 42 = .ok (.iload 4, 2) := by decide +kernel
theorem own_d_prog_68_method_1_code_44 : decode prog_68_method_1_code 44 = .ok (.aload_n 1, 1) := by decide +kernel
theorem own_d_prog_68_method_1_code_45 : decode prog_68_method_1_code 45 = .ok (.arraylength, 1) := by decide +kernel
theorem own_d_prog_68_method_1_code_46 : decode prog_68_method_1_code 46 = .ok (.if_icmp .ge 32, 3) := by decide +kernel
theorem own_d_prog_68_method_1_code_49 : decode prog_68_method_1_code 49 = .ok (.aload_n 0, 1) := by decide +kernel
theorem own_d_prog_68_method_1_code_50 : decode prog_68_method_1_code 50 = .ok (.getfield 19, 3) := by decide +kernel
theorem own_d_prog_68_method_1_code_53 : decode prog_68_method_1_code 53 = .ok (.iload 4, 2) := by decide +kernel
theorem own_d_prog_68_method_1_code_55 : decode prog_68_method_1_code 55 = .ok (.aload_n 0, 1) := by decide +kernel
theorem own_d_prog_68_method_1_code_56 : decode prog_68_method_1_code 56 = .ok (.getfield 19, 3) := by decide +kernel
theorem own_d_prog_68_method_1_code_59 : decode prog_68_method_1_code 59 = .ok (.iload 4, 2) := by decide +kernel
theorem own_d_prog_68_method_1_code_61 : decode prog_68_method_1_code 61 = .ok (.iconst 1, 1) := by decide +kernel
theorem own_d_prog_68_method_1_code_62 : decode prog_68_method_1_code 62 = .ok (.isub, 1) := by decide +kernel
theorem own_d_prog_68_method_1_code_63 : decode prog_68_method_1_code 63 = .ok (.iaload, 1) := by decide +kernel
theorem own_d_prog_68_method_1_code_64 : decode prog_68_method_1_code 64 = .ok (.aload_n 2, 1) := by decide +kernel
theorem own_d_prog_68_method_1_code_65 : decode prog_68_method_1_code 65 = .ok (.iload 4, 2) := by decide +kernel
theorem own_d_prog_68_method_1_code_67 : decode prog_68_method_1_code 67 = .ok (.iconst 1, 1) := by decide +kernel
theorem own_d_prog_68_method_1_code_68 : decode prog_68_method_1_code 68 = .ok (.isub, 1) := by decide +kernel
theorem own_d_prog_68_method_1_code_69 : decode prog_68_method_1_code 69 = .ok (.iaload, 1) := by decide +kernel
theorem own_d_prog_68_method_1_code_70 : decode prog_68_method_1_code 70 = .ok (.iadd, 1) := by decide +kernel
theorem own_d_prog_68_method_1_code_71 : decode prog_68_method_1_code 71 = .ok (.iastore, 1) := by decide +kernel
theorem own_d_prog_68_method_1_code_72 : decode prog_68_method_1_code 72 = .ok (.iinc 4 1, 3) := by decide +kernel
theorem own_d_prog_68_method_1_code_75 : decode prog_68_method_1_code 75 = .ok (.goto (-33), 3) := by decide +kernel
theorem own_d_prog_68_method_7_code_0 : decode prog_68_method_7_code 0 = .ok (.aload_n 0, 1) := by decide +kernel
theorem own_d_prog_68_method_7_code_1 : decode prog_68_method_7_code 1 = .ok (.getfield 16, 3) := by decide +kernel
theorem own_d_prog_68_method_7_code_4 : decode prog_68_method_7_code 4 = .ok (.ifnonnull 7, 3) := by decide +kernel
theorem own_d_prog_68_method_7_code_7 : decode prog_68_method_7_code 7 = .ok (.iconst 0, 1) := by decide +kernel
theorem own_d_prog_68_method_7_code_8 : decode prog_68_method_7_code 8 = .ok (.goto 8, 3) := by decide +kernel
theorem own_d_prog_68_method_7_code_16 : decode prog_68_method_7_code 16 = .ok (.ireturn, 1) := by decide +kernel
theorem own_d_prog_68_method_5_code_0 : decode prog_68_method_5_code 0 = .ok (.aload_n 0, 1) := by decide +kernel
theorem own_d_prog_68_method_5_code_1 : decode prog_68_method_5_code 1 = .ok (.getfield 16, 3) := by decide +kernel
theorem own_d_prog_68_method_5_code_4 : decode prog_68_method_5_code 4 = .ok (.ifnull 7, 3) := by decide +kernel
theorem own_d_prog_68_method_5_code_11 : decode prog_68_method_5_code 11 = .ok (.iconst 0, 1) := by decide +kernel
theorem own_d_prog_68_method_5_code_12 : decode prog_68_method_5_code 12 = .ok (.ireturn, 1) := by decide +kernel
theorem own_d_prog_68_method_5_code_7 : decode prog_68_method_5_code 7 = .ok (.iconst 1, 1) := by decide +kernel
theorem own_d_prog_68_method_5_code_8 : decode prog_68_method_5_code 8 = .ok (.goto 4, 3) := by decide +kernel
theorem own_d_prog_68_method_7_code_11 : decode prog_68_method_7_code 11 = .ok (.aload_n 0, 1) := by decide +kernel
theorem own_d_prog_68_method_7_code_12 : decode prog_68_method_7_code 12 = .ok (.getfield 16, 3) := by decide +kernel
theorem own_d_prog_68_method_7_code_15 : decode prog_68_method_7_code 15 = .ok (.arraylength, 1) := by decide +kernel
theorem own_pd0 : parseMethodDescriptor "([I[I[I)V" = some ⟨[(.array .int), (.array .int), (.array .int)], none⟩ := by decide +kernel
theorem own_pd1 : parseMethodDescriptor "()I" = some ⟨[], some .int⟩ := by decide +kernel
theorem own_pd2 : parseMethodDescriptor "()Z" = some ⟨[], some .boolean⟩ := by decide +kernel
theorem own_pn0 : plainName "com/example/cranfield/cranfield/index/Postings" = true := by first | (simp [plainName, overriddenIn]; done) | decide +kernel
theorem own_pn1 : plainName "com/example/cranfield/cranfield/index/PostingsPositionCountPinLaw" = true := by first | (simp [plainName, overriddenIn]; done) | decide +kernel
def QL (n0 : Nat) (v : Option Value) (h : Heap) (L : List Loc) : Prop := v = some (.int 1) ∧ Fr n0 L
theorem own_lc0 {a b : Int64} (h : a = b) : lcmpW a b = 0 := (lcW a b).trans ((lc_eq a b).mpr h)
theorem own_lcn {a b : Int64} (h : ¬ a = b) : ¬ lcmpW a b = 0 := fun q => h ((lc_eq a b).mp ((lcW a b).symm.trans q))
theorem own_lclt {a b : Int64} (h : a < b) : lcmpW a b < 0 := (lcW a b).symm ▸ (lc_lt a b).mpr h
theorem own_lcge {a b : Int64} (h : ¬ a < b) : ¬ lcmpW a b < 0 := fun q => h ((lc_lt a b).mp ((lcW a b) ▸ q))
theorem own_lcgt {a b : Int64} (h : b < a) : 0 < lcmpW a b := (lcW a b).symm ▸ (lc_gt a b).mpr h
theorem own_lcle {a b : Int64} (h : ¬ b < a) : ¬ 0 < lcmpW a b := fun q => h ((lc_gt a b).mp ((lcW a b) ▸ q))
theorem own_sta_keep {Z : State} {h h' : Heap} {C n d : String} {v : Value} {ws : List Addr} (F : Sta Z h C n d v) (K : Keep h h' ws) (q : ∀ x ∈ ws, ∃ cl : Cell, h[x]? = some cl ∧ cl.vm.isStatics = false) : Sta Z h' C n d v := by
  obtain ⟨cf, i, k, f, st, cell, h1, h2, h3, h4, h5, h6, h7⟩ := F
  refine ⟨cf, i, k, f, st, cell, h1, h2, h3, h4, K.2.1 st cell h5 (fun hm => ?_), h6, h7⟩
  obtain ⟨cl, e1, e2⟩ := q st hm
  cases e1.symm.trans h5
  rw [e2] at h6; cases h6
theorem own_n (a : Int32) : (a &&& (3 : Int32)) = 0 ∨ (a &&& (3 : Int32)) = 1 ∨ (a &&& (3 : Int32)) = 2 ∨ (a &&& (3 : Int32)) = 3 := by
  have e1 : (a &&& 3).toInt = a.toInt % 2 ^ 2 := Jvm.Kit.i32_mask a 3 (k := 2) (by decide) (by decide)
  simp only [← Int32.toInt_inj]
  show (a &&& 3).toInt = 0 ∨ (a &&& 3).toInt = 1 ∨ (a &&& 3).toInt = 2 ∨ (a &&& 3).toInt = 3
  omega
theorem own_f (a : Int32) : 1 ≤ ((a &&& (3 : Int32)) + (1 : Int32)).toInt ∧ ((a &&& (3 : Int32)) + (1 : Int32)).toInt ≤ 4 := by
  have e1 : (a &&& 3).toInt = a.toInt % 2 ^ 2 := Jvm.Kit.i32_mask a 3 (k := 2) (by decide) (by decide)
  have t1 : (1 : Int32).toInt = 1 := by decide
  have e2 : ((a &&& (3 : Int32)) + (1 : Int32)).toInt = a.toInt % 2 ^ 2 + 1 := by rw [Jvm.Kit.i32_add (by omega) (by omega), e1, t1]
  omega
def own_T (t : Int32) : Prop := 1 ≤ t.toInt ∧ t.toInt ≤ 12
def own_F (f : Int32) : Prop := 1 ≤ f.toInt ∧ f.toInt ≤ 4
theorem own_ne0 {x : Int32} (h : x = 1) : ¬ (x = (0 : Int32)) := by subst h; decide
theorem own_tot1 {f0 f1 f2 : Int32} (h0 : 1 ≤ f0.toInt ∧ f0.toInt ≤ 4) (h1 : 1 ≤ f1.toInt ∧ f1.toInt ≤ 4) (h2 : 1 ≤ f2.toInt ∧ f2.toInt ≤ 4) : own_T ((f0 + (0 : Int32)) + (0 : Int32)) := by
  unfold own_T; rw [Int32.add_zero, Int32.add_zero]; omega
theorem own_tot2 {f0 f1 f2 : Int32} (h0 : 1 ≤ f0.toInt ∧ f0.toInt ≤ 4) (h1 : 1 ≤ f1.toInt ∧ f1.toInt ≤ 4) (h2 : 1 ≤ f2.toInt ∧ f2.toInt ≤ 4) : own_T ((f0 + f1) + (0 : Int32)) := by
  unfold own_T; rw [Int32.add_zero, Jvm.Kit.i32_add (by omega) (by omega)]; omega
theorem own_tot3 {f0 f1 f2 : Int32} (h0 : 1 ≤ f0.toInt ∧ f0.toInt ≤ 4) (h1 : 1 ≤ f1.toInt ∧ f1.toInt ≤ 4) (h2 : 1 ≤ f2.toInt ∧ f2.toInt ≤ 4) : own_T ((f0 + f1) + f2) := by
  have e : (f0 + f1).toInt = f0.toInt + f1.toInt := Jvm.Kit.i32_add (by omega) (by omega)
  unfold own_T; rw [Jvm.Kit.i32_add (by omega) (by omega)]; omega
theorem own_tneg {t : Int32} (h : own_T t) : ¬ t < 0 := by
  have t0 : (0 : Int32).toInt = 0 := by decide
  rw [Int32.lt_iff_toInt_lt, t0]; have := h.1; omega
theorem own_tpos {t : Int32} (h : own_T t) : (0 : Int32) < t := by
  have t0 : (0 : Int32).toInt = 0 := by decide
  rw [Int32.lt_iff_toInt_lt, t0]; have := h.1; omega
theorem own_tcap {t : Int32} (h : own_T t) : t.toNatClampNeg ≤ 12 := by
  have h2 := h.2
  show t.toInt.toNat ≤ 12
  omega
theorem own_tlast {t : Int32} (h : (1 : Int32) < t) : ¬ (t - (1 : Int32)) < 0 ∧ (t - (1 : Int32)) < t := by
  have t0 : (0 : Int32).toInt = 0 := by decide
  have t1 : (1 : Int32).toInt = 1 := by decide
  rw [Int32.lt_iff_toInt_lt, t1] at h
  have hb := t.toInt_lt
  have e : (t - (1 : Int32)).toInt = t.toInt - 1 := by rw [Jvm.Kit.i32_sub (by omega) (by omega), t1]
  rw [Int32.lt_iff_toInt_lt, Int32.lt_iff_toInt_lt, e, t0]; omega
def QI (Z : State) (a : Addr) (po : Value) (h0 : Heap) (n0 : Nat) (v : Option Value) (h : Heap) (L : List Loc) : Prop := v = none ∧ Fr n0 L ∧ Keep h0 h [a] ∧ Fld Z h a "com/example/cranfield/cranfield/index/Postings" "positions" "[I" po
theorem own_ef_rmIn (m : MethodId) (y0 : Addr) (y1 : Addr) (y2 : Addr) : entryFrame m #[(.ref y0), (.ref y1), (.ref y2), .null] 5 = mkF m 0 #[.val (.ref y0), .val (.ref y1), .val (.ref y2), .val .null, .unset] [] := by first | (simp [entryFrame, mkF, argsToLocals, Value.category]; done) | rfl
set_option maxRecDepth 65536 in
set_option maxHeartbeats 40000000 in
theorem rmIn (l : Launch) (Z : State) (a0 : Array Value) (hw : ∀ d ∈ tables_1, d.before a0 Z = true) (ws : List Jvm.Cond) (a d1 d2 : Addr) (h0 : Heap) (n0 : Nat) (Z0 : n0 ≤ h0.size) (E_a : Exa Z h0 a "com/example/cranfield/cranfield/index/Postings") (g_a : n0 ≤ a) (F_documents : Fld Z h0 a "com/example/cranfield/cranfield/index/Postings" "documents" "[I" .null) (F_frequencies : Fld Z h0 a "com/example/cranfield/cranfield/index/Postings" "frequencies" "[I" .null) (F_positions : Fld Z h0 a "com/example/cranfield/cranfield/index/Postings" "positions" "[I" .null) (F_firstPositions : Fld Z h0 a "com/example/cranfield/cranfield/index/Postings" "firstPositions" "[I" .null)  :
    MetFree l (⟨"com/example/cranfield/cranfield/index/Postings", "<init>", "([I[I[I)V"⟩ : MethodName) (head1 (Jvm.Cond.code (⟨"com/example/cranfield/cranfield/index/Postings", "<init>", "([I[I[I)V"⟩ : MethodName) prog_68_method_1_code 5 none :: ws) ({ frames := 1, cells := 0, slots := 0, locals := 12 } : Room)) (fun ar_ U => ar_ = #[(.ref a), (.ref d1), (.ref d2), .null] ∧ Z.Warmed39 U.vm ∧ U.heap = h0) (fun _ _ _ _ _ => True) (fun _ U o U' => ∃ v L, o = .returned v ∧ QI Z a .null h0 n0 v U'.heap L ∧ FrameEnd U o U' L ({ frames := 1, cells := 0, slots := 0, locals := 12 } : Room).cells ({ frames := 1, cells := 0, slots := 0, locals := 12 } : Room).slots) := by
  refine MetFree.of_bodySF (plainFor_of_name own_pn0) hisR ?_
  intro p e s m args below meth c s₁ Bd hml0 hP hK
  obtain ⟨rfl, hZ, hh⟩ := hP
  have hx := Bd.exec
  have hby := Bd.bytes
  have hml : c.maxLocals = 5 := hml0
  have hown : s.vm.findClass "com/example/cranfield/cranfield/index/Postings" = some m.cls := findClass_of_methodNamed Bd.named
  have hnm := (name_of_methodNamed Bd.named Bd.method).1
  have X0 : Stand p l e ({ frames := 1, cells := 0, slots := 0, locals := 12 } : Room) s m #[(.ref a), (.ref d1), (.ref d2), .null] below meth c s₁ [] 0 0 := Stand.of_body Bd
  have e0 : s₁.heap = h0 := by rw [← hh, Bd.state]; rfl
  have N0 := Fr.nil n0
  have pre0 : ∀ t, Steps p.tables e below (s₁.setTop (mkF m 0 #[.val (.ref a), .val (.ref d1), .val (.ref d2), .val .null, .unset] [])) t → Steps p.tables e below (s₁.setTop (entryFrame m #[(.ref a), (.ref d1), (.ref d2), .null] 5)) t := fun t k => castTop (own_ef_rmIn m a d1 d2) k
  obtain ⟨T1, X1, e1, st1⟩ := initO X0 hx hZ hown (hw _ (List.mem_of_getElem? (i := 7) rfl)) (hw _ (List.mem_of_getElem? (i := 8) rfl)) (hw _ (List.mem_of_getElem? (i := 9) rfl)) e0 (g := (mkF m 1 #[.val (.ref a), .val (.ref d1), .val (.ref d2), .val .null, .unset] [(.ref a)])) rfl (by rw [hml]; rfl) rfl (hb hby own_d_prog_68_method_1_code_1) (by decide) (W := 0) (by show 2 * 0 + _ ≤ _; exact Nat.le_of_eq rfl) (by decide)
  obtain ⟨T2, h2, X2, e2, W2, st2⟩ := putF X1 hx hZ hown (host := "") (Or.inl (hw _ (List.mem_of_getElem? (i := 10) rfl))) Via.refl e1 F_documents E_a (Or.inr ⟨(hw _ (List.mem_of_getElem? (i := 11) rfl)), rfl, hnm⟩) (hw _ (List.mem_of_getElem? (i := 2) rfl)) (ty := (.array .int)) (by decide) rfl rfl (g := (mkF m 6 #[.val (.ref a), .val (.ref d1), .val (.ref d2), .val .null, .unset] [(.ref d1), (.ref a)])) rfl rfl (hb hby own_d_prog_68_method_1_code_6)
  have F2_0 := F_documents.same W2
  have F2_1 := F_frequencies.other W2 (Or.inr (slot_ne (Or.inr (hw _ (List.mem_of_getElem? (i := 13) rfl))) (Or.inr (hw _ (List.mem_of_getElem? (i := 11) rfl))) (by decide) (t := (.array .int)) (t' := (.array .int)) (by decide) (by decide)))
  have F2_2 := F_positions.other W2 (Or.inr (slot_ne (Or.inr (hw _ (List.mem_of_getElem? (i := 15) rfl))) (Or.inr (hw _ (List.mem_of_getElem? (i := 11) rfl))) (by decide) (t := (.array .int)) (t' := (.array .int)) (by decide) (by decide)))
  have F2_3 := F_firstPositions.other W2 (Or.inr (slot_ne (Or.inr (hw _ (List.mem_of_getElem? (i := 17) rfl))) (Or.inr (hw _ (List.mem_of_getElem? (i := 11) rfl))) (by decide) (t := (.array .int)) (t' := (.array .int)) (by decide) (by decide)))
  have X2_0 := E_a.wr W2
  have z2 : n0 ≤ h2.size := by rw [W2.size]; exact Z0
  have K2 : Keep h0 h2 [a] := (Keep.refl h0 [a]).wr W2 (Or.inl (by simp))
  have N2 := Fr.snoc X2 N0 g_a
  obtain ⟨T3, h3, X3, e3, W3, st3⟩ := putF X2 hx hZ hown (host := "") (Or.inl (hw _ (List.mem_of_getElem? (i := 12) rfl))) Via.refl e2 F2_1 X2_0 (Or.inr ⟨(hw _ (List.mem_of_getElem? (i := 13) rfl)), rfl, hnm⟩) (hw _ (List.mem_of_getElem? (i := 2) rfl)) (ty := (.array .int)) (by decide) rfl rfl (g := (mkF m 11 #[.val (.ref a), .val (.ref d1), .val (.ref d2), .val .null, .unset] [(.ref d2), (.ref a)])) rfl rfl (hb hby own_d_prog_68_method_1_code_11)
  have F3_0 := F2_0.other W3 (Or.inr (slot_ne (Or.inr (hw _ (List.mem_of_getElem? (i := 11) rfl))) (Or.inr (hw _ (List.mem_of_getElem? (i := 13) rfl))) (by decide) (t := (.array .int)) (t' := (.array .int)) (by decide) (by decide)))
  have F3_1 := F2_1.same W3
  have F3_2 := F2_2.other W3 (Or.inr (slot_ne (Or.inr (hw _ (List.mem_of_getElem? (i := 15) rfl))) (Or.inr (hw _ (List.mem_of_getElem? (i := 13) rfl))) (by decide) (t := (.array .int)) (t' := (.array .int)) (by decide) (by decide)))
  have F3_3 := F2_3.other W3 (Or.inr (slot_ne (Or.inr (hw _ (List.mem_of_getElem? (i := 17) rfl))) (Or.inr (hw _ (List.mem_of_getElem? (i := 13) rfl))) (by decide) (t := (.array .int)) (t' := (.array .int)) (by decide) (by decide)))
  have X3_0 := X2_0.wr W3
  have z3 : n0 ≤ h3.size := by rw [W3.size]; exact z2
  have K3 : Keep h0 h3 [a] := K2.wr W3 (Or.inl (by simp))
  have N3 := Fr.snoc X3 N2 g_a
  obtain ⟨T4, h4, X4, e4, W4, st4⟩ := putF X3 hx hZ hown (host := "") (Or.inl (hw _ (List.mem_of_getElem? (i := 14) rfl))) Via.refl e3 F3_2 X3_0 (Or.inr ⟨(hw _ (List.mem_of_getElem? (i := 15) rfl)), rfl, hnm⟩) (hw _ (List.mem_of_getElem? (i := 2) rfl)) (ty := (.array .int)) (by decide) rfl rfl (g := (mkF m 16 #[.val (.ref a), .val (.ref d1), .val (.ref d2), .val .null, .unset] [.null, (.ref a)])) rfl rfl (hb hby own_d_prog_68_method_1_code_16)
  have F4_0 := F3_0.other W4 (Or.inr (slot_ne (Or.inr (hw _ (List.mem_of_getElem? (i := 11) rfl))) (Or.inr (hw _ (List.mem_of_getElem? (i := 15) rfl))) (by decide) (t := (.array .int)) (t' := (.array .int)) (by decide) (by decide)))
  have F4_1 := F3_1.other W4 (Or.inr (slot_ne (Or.inr (hw _ (List.mem_of_getElem? (i := 13) rfl))) (Or.inr (hw _ (List.mem_of_getElem? (i := 15) rfl))) (by decide) (t := (.array .int)) (t' := (.array .int)) (by decide) (by decide)))
  have F4_2 := F3_2.same W4
  have F4_3 := F3_3.other W4 (Or.inr (slot_ne (Or.inr (hw _ (List.mem_of_getElem? (i := 17) rfl))) (Or.inr (hw _ (List.mem_of_getElem? (i := 15) rfl))) (by decide) (t := (.array .int)) (t' := (.array .int)) (by decide) (by decide)))
  have X4_0 := X3_0.wr W4
  have z4 : n0 ≤ h4.size := by rw [W4.size]; exact z3
  have K4 : Keep h0 h4 [a] := K3.wr W4 (Or.inl (by simp))
  have N4 := Fr.snoc X4 N3 g_a
  obtain ⟨T5, h5, X5, e5, W5, st5⟩ := putF X4 hx hZ hown (host := "") (Or.inl (hw _ (List.mem_of_getElem? (i := 16) rfl))) Via.refl e4 F4_3 X4_0 (Or.inr ⟨(hw _ (List.mem_of_getElem? (i := 17) rfl)), rfl, hnm⟩) (hw _ (List.mem_of_getElem? (i := 2) rfl)) (ty := (.array .int)) (by decide) rfl rfl (g := (mkF m 25 #[.val (.ref a), .val (.ref d1), .val (.ref d2), .val .null, .unset] [.null, (.ref a)])) rfl rfl (hb hby own_d_prog_68_method_1_code_25)
  have F5_0 := F4_0.other W5 (Or.inr (slot_ne (Or.inr (hw _ (List.mem_of_getElem? (i := 11) rfl))) (Or.inr (hw _ (List.mem_of_getElem? (i := 17) rfl))) (by decide) (t := (.array .int)) (t' := (.array .int)) (by decide) (by decide)))
  have F5_1 := F4_1.other W5 (Or.inr (slot_ne (Or.inr (hw _ (List.mem_of_getElem? (i := 13) rfl))) (Or.inr (hw _ (List.mem_of_getElem? (i := 17) rfl))) (by decide) (t := (.array .int)) (t' := (.array .int)) (by decide) (by decide)))
  have F5_2 := F4_2.other W5 (Or.inr (slot_ne (Or.inr (hw _ (List.mem_of_getElem? (i := 15) rfl))) (Or.inr (hw _ (List.mem_of_getElem? (i := 17) rfl))) (by decide) (t := (.array .int)) (t' := (.array .int)) (by decide) (by decide)))
  have F5_3 := F4_3.same W5
  have X5_0 := X4_0.wr W5
  have z5 : n0 ≤ h5.size := by rw [W5.size]; exact z4
  have K5 : Keep h0 h5 [a] := K4.wr W5 (Or.inl (by simp))
  have N5 := Fr.snoc X5 N4 g_a
  have pre6 : ∀ t, Steps p.tables e below (T5.setTop (mkF m 78 #[.val (.ref a), .val (.ref d1), .val (.ref d2), .val .null, .unset] [])) t → Steps p.tables e below (s₁.setTop (entryFrame m #[(.ref a), (.ref d1), (.ref d2), .null] 5)) t := fun t k => pre0 t (by
    show Steps p.tables e below (s₁.setTop (mkF m 0 #[.val (.ref a), .val (.ref d1), .val (.ref d2), .val .null, .unset] [])) _
    refine XS.aloadN X0.here hx rfl (hb hby own_d_prog_68_method_1_code_0) rfl rfl ?_
    show Steps p.tables e below (s₁.setTop (mkF m 1 #[.val (.ref a), .val (.ref d1), .val (.ref d2), .val .null, .unset] [(.ref a)])) _
    refine st1 _ ?_
    show Steps p.tables e below (T1.setTop (mkF m 4 #[.val (.ref a), .val (.ref d1), .val (.ref d2), .val .null, .unset] [])) _
    refine XS.aloadN X1.here hx rfl (hb hby own_d_prog_68_method_1_code_4) rfl rfl ?_
    show Steps p.tables e below (T1.setTop (mkF m 5 #[.val (.ref a), .val (.ref d1), .val (.ref d2), .val .null, .unset] [(.ref a)])) _
    refine XS.aloadN X1.here hx rfl (hb hby own_d_prog_68_method_1_code_5) rfl rfl ?_
    show Steps p.tables e below (T1.setTop (mkF m 6 #[.val (.ref a), .val (.ref d1), .val (.ref d2), .val .null, .unset] [(.ref d1), (.ref a)])) _
    refine st2 _ ?_
    show Steps p.tables e below (T2.setTop (mkF m 9 #[.val (.ref a), .val (.ref d1), .val (.ref d2), .val .null, .unset] [])) _
    refine XS.aloadN X2.here hx rfl (hb hby own_d_prog_68_method_1_code_9) rfl rfl ?_
    show Steps p.tables e below (T2.setTop (mkF m 10 #[.val (.ref a), .val (.ref d1), .val (.ref d2), .val .null, .unset] [(.ref a)])) _
    refine XS.aloadN X2.here hx rfl (hb hby own_d_prog_68_method_1_code_10) rfl rfl ?_
    show Steps p.tables e below (T2.setTop (mkF m 11 #[.val (.ref a), .val (.ref d1), .val (.ref d2), .val .null, .unset] [(.ref d2), (.ref a)])) _
    refine st3 _ ?_
    show Steps p.tables e below (T3.setTop (mkF m 14 #[.val (.ref a), .val (.ref d1), .val (.ref d2), .val .null, .unset] [])) _
    refine XS.aloadN X3.here hx rfl (hb hby own_d_prog_68_method_1_code_14) rfl rfl ?_
    show Steps p.tables e below (T3.setTop (mkF m 15 #[.val (.ref a), .val (.ref d1), .val (.ref d2), .val .null, .unset] [(.ref a)])) _
    refine XS.aloadN X3.here hx rfl (hb hby own_d_prog_68_method_1_code_15) rfl rfl ?_
    show Steps p.tables e below (T3.setTop (mkF m 16 #[.val (.ref a), .val (.ref d1), .val (.ref d2), .val .null, .unset] [.null, (.ref a)])) _
    refine st4 _ ?_
    show Steps p.tables e below (T4.setTop (mkF m 19 #[.val (.ref a), .val (.ref d1), .val (.ref d2), .val .null, .unset] [])) _
    refine XS.aloadN X4.here hx rfl (hb hby own_d_prog_68_method_1_code_19) rfl rfl ?_
    show Steps p.tables e below (T4.setTop (mkF m 20 #[.val (.ref a), .val (.ref d1), .val (.ref d2), .val .null, .unset] [.null])) _
    refine XS.ifnonnullNo X4.here hx rfl (hb hby own_d_prog_68_method_1_code_20) rfl ?_
    show Steps p.tables e below (T4.setTop (mkF m 23 #[.val (.ref a), .val (.ref d1), .val (.ref d2), .val .null, .unset] [])) _
    refine XS.aloadN X4.here hx rfl (hb hby own_d_prog_68_method_1_code_23) rfl rfl ?_
    show Steps p.tables e below (T4.setTop (mkF m 24 #[.val (.ref a), .val (.ref d1), .val (.ref d2), .val .null, .unset] [(.ref a)])) _
    refine XS.aconstNull X4.here hx rfl (hb hby own_d_prog_68_method_1_code_24) ?_
    show Steps p.tables e below (T4.setTop (mkF m 25 #[.val (.ref a), .val (.ref d1), .val (.ref d2), .val .null, .unset] [.null, (.ref a)])) _
    refine st5 _ ?_
    show Steps p.tables e below (T5.setTop (mkF m 28 #[.val (.ref a), .val (.ref d1), .val (.ref d2), .val .null, .unset] [])) _
    refine XS.goto X5.here hx rfl (pc0 := 28) (pc' := 78) rfl (hb hby own_d_prog_68_method_1_code_28) (by decide) (by decide) ?_
    exact k)
  obtain ⟨fs, hr, hrun, hended, hW, hsame⟩ := X5.leave (v := none) (fun _ => rfl)
  refine ⟨_, _, pre6 _ ?_, hrun, hended, _, _, rfl, ?_, ⟨_, rfl⟩, hW, hsame.mono (by decide) (by decide)⟩
  · show Steps p.tables e below (T5.setTop (mkF m 78 #[.val (.ref a), .val (.ref d1), .val (.ref d2), .val .null, .unset] [])) _
    exact X5.returnOut hx Bd.returns (hb hby own_d_prog_68_method_1_code_78) hr
  · show QI Z a .null h0 n0 _ T5.heap _
    rw [e5]
    exact ⟨rfl, N5, K5, F5_2⟩
theorem own_ef_rmI0 (m : MethodId) (y0 : Addr) (y1 : Addr) (y2 : Addr) (y3 : Addr) : entryFrame m #[(.ref y0), (.ref y1), (.ref y2), (.ref y3)] 5 = mkF m 0 #[.val (.ref y0), .val (.ref y1), .val (.ref y2), .val (.ref y3), .unset] [] := by first | (simp [entryFrame, mkF, argsToLocals, Value.category]; done) | rfl
set_option maxRecDepth 65536 in
set_option maxHeartbeats 40000000 in
theorem rmI0 (l : Launch) (Z : State) (a0 : Array Value) (hw : ∀ d ∈ tables_1, d.before a0 Z = true) (ws : List Jvm.Cond) (a d1 d2 po : Addr) (k1 k2 : ClassId)  (h0 : Heap) (n0 : Nat) (Z0 : n0 ≤ h0.size) (E_a : Exa Z h0 a "com/example/cranfield/cranfield/index/Postings") (g_a : n0 ≤ a) (F_documents : Fld Z h0 a "com/example/cranfield/cranfield/index/Postings" "documents" "[I" .null) (F_frequencies : Fld Z h0 a "com/example/cranfield/cranfield/index/Postings" "frequencies" "[I" .null) (F_positions : Fld Z h0 a "com/example/cranfield/cranfield/index/Postings" "positions" "[I" .null) (F_firstPositions : Fld Z h0 a "com/example/cranfield/cranfield/index/Postings" "firstPositions" "[I" .null) (A1 : Arv Z h0 d1 k1 .int (0 : Int32) [] (.int (0 : Int32))) (A2 : Arv Z h0 d2 k2 .int (0 : Int32) [] (.int (0 : Int32))) (ne1 : a ≠ d1) (ne2 : a ≠ d2) :
    MetFree l (⟨"com/example/cranfield/cranfield/index/Postings", "<init>", "([I[I[I)V"⟩ : MethodName) (head1 (Jvm.Cond.code (⟨"com/example/cranfield/cranfield/index/Postings", "<init>", "([I[I[I)V"⟩ : MethodName) prog_68_method_1_code 5 none :: ws) ({ frames := 1, cells := 1, slots := 0, locals := 12 } : Room)) (fun ar_ U => ar_ = #[(.ref a), (.ref d1), (.ref d2), (.ref po)] ∧ Z.Warmed39 U.vm ∧ U.heap = h0) (fun _ _ _ _ _ => True) (fun _ U o U' => ∃ v L, o = .returned v ∧ QI Z a (.ref po) h0 n0 v U'.heap L ∧ FrameEnd U o U' L ({ frames := 1, cells := 1, slots := 0, locals := 12 } : Room).cells ({ frames := 1, cells := 1, slots := 0, locals := 12 } : Room).slots) := by
  refine MetFree.of_bodySF (plainFor_of_name own_pn0) hisR ?_
  intro p e s m args below meth c s₁ Bd hml0 hP hK
  obtain ⟨rfl, hZ, hh⟩ := hP
  have hx := Bd.exec
  have hby := Bd.bytes
  have hml : c.maxLocals = 5 := hml0
  have hown : s.vm.findClass "com/example/cranfield/cranfield/index/Postings" = some m.cls := findClass_of_methodNamed Bd.named
  have hnm := (name_of_methodNamed Bd.named Bd.method).1
  have X0 : Stand p l e ({ frames := 1, cells := 1, slots := 0, locals := 12 } : Room) s m #[(.ref a), (.ref d1), (.ref d2), (.ref po)] below meth c s₁ [] 0 0 := Stand.of_body Bd
  have e0 : s₁.heap = h0 := by rw [← hh, Bd.state]; rfl
  have N0 := Fr.nil n0
  have pre0 : ∀ t, Steps p.tables e below (s₁.setTop (mkF m 0 #[.val (.ref a), .val (.ref d1), .val (.ref d2), .val (.ref po), .unset] [])) t → Steps p.tables e below (s₁.setTop (entryFrame m #[(.ref a), (.ref d1), (.ref d2), (.ref po)] 5)) t := fun t k => castTop (own_ef_rmI0 m a d1 d2 po) k
  obtain ⟨T1, X1, e1, st1⟩ := initO X0 hx hZ hown (hw _ (List.mem_of_getElem? (i := 7) rfl)) (hw _ (List.mem_of_getElem? (i := 8) rfl)) (hw _ (List.mem_of_getElem? (i := 9) rfl)) e0 (g := (mkF m 1 #[.val (.ref a), .val (.ref d1), .val (.ref d2), .val (.ref po), .unset] [(.ref a)])) rfl (by rw [hml]; rfl) rfl (hb hby own_d_prog_68_method_1_code_1) (by decide) (W := 0) (by show 2 * 0 + _ ≤ _; exact Nat.le_of_eq rfl) (by decide)
  obtain ⟨T2, h2, X2, e2, W2, st2⟩ := putF X1 hx hZ hown (host := "") (Or.inl (hw _ (List.mem_of_getElem? (i := 10) rfl))) Via.refl e1 F_documents E_a (Or.inr ⟨(hw _ (List.mem_of_getElem? (i := 11) rfl)), rfl, hnm⟩) (hw _ (List.mem_of_getElem? (i := 2) rfl)) (ty := (.array .int)) (by decide) rfl rfl (g := (mkF m 6 #[.val (.ref a), .val (.ref d1), .val (.ref d2), .val (.ref po), .unset] [(.ref d1), (.ref a)])) rfl rfl (hb hby own_d_prog_68_method_1_code_6)
  have F2_0 := F_documents.same W2
  have F2_1 := F_frequencies.other W2 (Or.inr (slot_ne (Or.inr (hw _ (List.mem_of_getElem? (i := 13) rfl))) (Or.inr (hw _ (List.mem_of_getElem? (i := 11) rfl))) (by decide) (t := (.array .int)) (t' := (.array .int)) (by decide) (by decide)))
  have F2_2 := F_positions.other W2 (Or.inr (slot_ne (Or.inr (hw _ (List.mem_of_getElem? (i := 15) rfl))) (Or.inr (hw _ (List.mem_of_getElem? (i := 11) rfl))) (by decide) (t := (.array .int)) (t' := (.array .int)) (by decide) (by decide)))
  have F2_3 := F_firstPositions.other W2 (Or.inr (slot_ne (Or.inr (hw _ (List.mem_of_getElem? (i := 17) rfl))) (Or.inr (hw _ (List.mem_of_getElem? (i := 11) rfl))) (by decide) (t := (.array .int)) (t' := (.array .int)) (by decide) (by decide)))
  have X2_0 := E_a.wr W2
  have V2_0 := A1.other W2 (Ne.symm ne1)
  have V2_1 := A2.other W2 (Ne.symm ne2)
  have z2 : n0 ≤ h2.size := by rw [W2.size]; exact Z0
  have K2 : Keep h0 h2 [a] := (Keep.refl h0 [a]).wr W2 (Or.inl (by simp))
  have N2 := Fr.snoc X2 N0 g_a
  obtain ⟨T3, h3, X3, e3, W3, st3⟩ := putF X2 hx hZ hown (host := "") (Or.inl (hw _ (List.mem_of_getElem? (i := 12) rfl))) Via.refl e2 F2_1 X2_0 (Or.inr ⟨(hw _ (List.mem_of_getElem? (i := 13) rfl)), rfl, hnm⟩) (hw _ (List.mem_of_getElem? (i := 2) rfl)) (ty := (.array .int)) (by decide) rfl rfl (g := (mkF m 11 #[.val (.ref a), .val (.ref d1), .val (.ref d2), .val (.ref po), .unset] [(.ref d2), (.ref a)])) rfl rfl (hb hby own_d_prog_68_method_1_code_11)
  have F3_0 := F2_0.other W3 (Or.inr (slot_ne (Or.inr (hw _ (List.mem_of_getElem? (i := 11) rfl))) (Or.inr (hw _ (List.mem_of_getElem? (i := 13) rfl))) (by decide) (t := (.array .int)) (t' := (.array .int)) (by decide) (by decide)))
  have F3_1 := F2_1.same W3
  have F3_2 := F2_2.other W3 (Or.inr (slot_ne (Or.inr (hw _ (List.mem_of_getElem? (i := 15) rfl))) (Or.inr (hw _ (List.mem_of_getElem? (i := 13) rfl))) (by decide) (t := (.array .int)) (t' := (.array .int)) (by decide) (by decide)))
  have F3_3 := F2_3.other W3 (Or.inr (slot_ne (Or.inr (hw _ (List.mem_of_getElem? (i := 17) rfl))) (Or.inr (hw _ (List.mem_of_getElem? (i := 13) rfl))) (by decide) (t := (.array .int)) (t' := (.array .int)) (by decide) (by decide)))
  have X3_0 := X2_0.wr W3
  have V3_0 := V2_0.other W3 (Ne.symm ne1)
  have V3_1 := V2_1.other W3 (Ne.symm ne2)
  have z3 : n0 ≤ h3.size := by rw [W3.size]; exact z2
  have K3 : Keep h0 h3 [a] := K2.wr W3 (Or.inl (by simp))
  have N3 := Fr.snoc X3 N2 g_a
  obtain ⟨T4, h4, X4, e4, W4, st4⟩ := putF X3 hx hZ hown (host := "") (Or.inl (hw _ (List.mem_of_getElem? (i := 14) rfl))) Via.refl e3 F3_2 X3_0 (Or.inr ⟨(hw _ (List.mem_of_getElem? (i := 15) rfl)), rfl, hnm⟩) (hw _ (List.mem_of_getElem? (i := 2) rfl)) (ty := (.array .int)) (by decide) rfl rfl (g := (mkF m 16 #[.val (.ref a), .val (.ref d1), .val (.ref d2), .val (.ref po), .unset] [(.ref po), (.ref a)])) rfl rfl (hb hby own_d_prog_68_method_1_code_16)
  have F4_0 := F3_0.other W4 (Or.inr (slot_ne (Or.inr (hw _ (List.mem_of_getElem? (i := 11) rfl))) (Or.inr (hw _ (List.mem_of_getElem? (i := 15) rfl))) (by decide) (t := (.array .int)) (t' := (.array .int)) (by decide) (by decide)))
  have F4_1 := F3_1.other W4 (Or.inr (slot_ne (Or.inr (hw _ (List.mem_of_getElem? (i := 13) rfl))) (Or.inr (hw _ (List.mem_of_getElem? (i := 15) rfl))) (by decide) (t := (.array .int)) (t' := (.array .int)) (by decide) (by decide)))
  have F4_2 := F3_2.same W4
  have F4_3 := F3_3.other W4 (Or.inr (slot_ne (Or.inr (hw _ (List.mem_of_getElem? (i := 17) rfl))) (Or.inr (hw _ (List.mem_of_getElem? (i := 15) rfl))) (by decide) (t := (.array .int)) (t' := (.array .int)) (by decide) (by decide)))
  have X4_0 := X3_0.wr W4
  have V4_0 := V3_0.other W4 (Ne.symm ne1)
  have V4_1 := V3_1.other W4 (Ne.symm ne2)
  have z4 : n0 ≤ h4.size := by rw [W4.size]; exact z3
  have K4 : Keep h0 h4 [a] := K3.wr W4 (Or.inl (by simp))
  have N4 := Fr.snoc X4 N3 g_a
  obtain ⟨cl5, Ar5, q5, S5, M5, H5, G5⟩ := id V4_0
  obtain ⟨T6, h6, k6, X6, e6, E6, A6, st6⟩ := newP X4 hx hZ (hw _ (List.mem_of_getElem? (i := 0) rfl)) e4 (g := (mkF m 34 #[.val (.ref a), .val (.ref d1), .val (.ref d2), .val (.ref po), .unset] [(.int (0 : Int32)), (.ref a)])) rfl (hb hby own_d_prog_68_method_1_code_34) rfl (by decide) (cap := 0) (by decide) (by decide) (by decide) (by decide)
  obtain ⟨b6, g6⟩ : ∃ z, z = h4.size := ⟨_, rfl⟩
  rw [← g6] at A6 st6
  have ne_a_b6 : a ≠ b6 := Nat.ne_of_lt (Nat.lt_of_lt_of_le (X4_0).lt (Nat.le_of_eq g6.symm))
  have ne_d1_b6 : d1 ≠ b6 := Nat.ne_of_lt (Nat.lt_of_lt_of_le (V4_0).lt (Nat.le_of_eq g6.symm))
  have ne_d2_b6 : d2 ≠ b6 := Nat.ne_of_lt (Nat.lt_of_lt_of_le (V4_1).lt (Nat.le_of_eq g6.symm))
  have g_b6 : n0 ≤ b6 := Nat.le_trans z4 (Nat.le_of_eq g6.symm)
  have sz_b6 : h0.size ≤ b6 := Nat.le_trans K4.1 (Nat.le_of_eq g6.symm)
  have F6_0 := F4_0.ext E6
  have F6_1 := F4_1.ext E6
  have F6_2 := F4_2.ext E6
  have F6_3 := F4_3.ext E6
  have X6_0 := X4_0.ext E6
  have V6_0 := V4_0.ext E6
  have V6_1 := V4_1.ext E6
  have z6 : n0 ≤ h6.size := Nat.le_trans z4 E6.1
  have K6 : Keep h0 h6 [a] := K4.ext E6
  have V_b6 : Arv Z h6 b6 k6 .int (0 : Int32) [] (.int (0 : Int32)) := (Arv.new A6 (by decide)).pad (pad_rep [] (.int (0 : Int32)) 0)
  obtain ⟨T7, h7, X7, e7, W7, st7⟩ := putF X6 hx hZ hown (host := "") (Or.inl (hw _ (List.mem_of_getElem? (i := 16) rfl))) Via.refl e6 F6_3 X6_0 (Or.inr ⟨(hw _ (List.mem_of_getElem? (i := 17) rfl)), rfl, hnm⟩) (hw _ (List.mem_of_getElem? (i := 2) rfl)) (ty := (.array .int)) (by decide) rfl rfl (g := (mkF m 36 #[.val (.ref a), .val (.ref d1), .val (.ref d2), .val (.ref po), .unset] [(.ref b6), (.ref a)])) rfl rfl (hb hby own_d_prog_68_method_1_code_36)
  have F7_0 := F6_0.other W7 (Or.inr (slot_ne (Or.inr (hw _ (List.mem_of_getElem? (i := 11) rfl))) (Or.inr (hw _ (List.mem_of_getElem? (i := 17) rfl))) (by decide) (t := (.array .int)) (t' := (.array .int)) (by decide) (by decide)))
  have F7_1 := F6_1.other W7 (Or.inr (slot_ne (Or.inr (hw _ (List.mem_of_getElem? (i := 13) rfl))) (Or.inr (hw _ (List.mem_of_getElem? (i := 17) rfl))) (by decide) (t := (.array .int)) (t' := (.array .int)) (by decide) (by decide)))
  have F7_2 := F6_2.other W7 (Or.inr (slot_ne (Or.inr (hw _ (List.mem_of_getElem? (i := 15) rfl))) (Or.inr (hw _ (List.mem_of_getElem? (i := 17) rfl))) (by decide) (t := (.array .int)) (t' := (.array .int)) (by decide) (by decide)))
  have F7_3 := F6_3.same W7
  have X7_0 := X6_0.wr W7
  have V7_0 := V6_0.other W7 (Ne.symm ne1)
  have V7_1 := V6_1.other W7 (Ne.symm ne2)
  have V7_2 := V_b6.other W7 (Ne.symm ne_a_b6)
  have z7 : n0 ≤ h7.size := by rw [W7.size]; exact z6
  have K7 : Keep h0 h7 [a] := K6.wr W7 (Or.inl (by simp))
  have N7 := Fr.snoc X7 N4 g_a
  obtain ⟨cl8, Ar8, q8, S8, M8, H8, G8⟩ := id V7_0
  have pre9 : ∀ t, Steps p.tables e below (T7.setTop (mkF m 78 #[.val (.ref a), .val (.ref d1), .val (.ref d2), .val (.ref po), .val (.int (1 : Int32))] [])) t → Steps p.tables e below (s₁.setTop (entryFrame m #[(.ref a), (.ref d1), (.ref d2), (.ref po)] 5)) t := fun t k => pre0 t (by
    show Steps p.tables e below (s₁.setTop (mkF m 0 #[.val (.ref a), .val (.ref d1), .val (.ref d2), .val (.ref po), .unset] [])) _
    refine XS.aloadN X0.here hx rfl (hb hby own_d_prog_68_method_1_code_0) rfl rfl ?_
    show Steps p.tables e below (s₁.setTop (mkF m 1 #[.val (.ref a), .val (.ref d1), .val (.ref d2), .val (.ref po), .unset] [(.ref a)])) _
    refine st1 _ ?_
    show Steps p.tables e below (T1.setTop (mkF m 4 #[.val (.ref a), .val (.ref d1), .val (.ref d2), .val (.ref po), .unset] [])) _
    refine XS.aloadN X1.here hx rfl (hb hby own_d_prog_68_method_1_code_4) rfl rfl ?_
    show Steps p.tables e below (T1.setTop (mkF m 5 #[.val (.ref a), .val (.ref d1), .val (.ref d2), .val (.ref po), .unset] [(.ref a)])) _
    refine XS.aloadN X1.here hx rfl (hb hby own_d_prog_68_method_1_code_5) rfl rfl ?_
    show Steps p.tables e below (T1.setTop (mkF m 6 #[.val (.ref a), .val (.ref d1), .val (.ref d2), .val (.ref po), .unset] [(.ref d1), (.ref a)])) _
    refine st2 _ ?_
    show Steps p.tables e below (T2.setTop (mkF m 9 #[.val (.ref a), .val (.ref d1), .val (.ref d2), .val (.ref po), .unset] [])) _
    refine XS.aloadN X2.here hx rfl (hb hby own_d_prog_68_method_1_code_9) rfl rfl ?_
    show Steps p.tables e below (T2.setTop (mkF m 10 #[.val (.ref a), .val (.ref d1), .val (.ref d2), .val (.ref po), .unset] [(.ref a)])) _
    refine XS.aloadN X2.here hx rfl (hb hby own_d_prog_68_method_1_code_10) rfl rfl ?_
    show Steps p.tables e below (T2.setTop (mkF m 11 #[.val (.ref a), .val (.ref d1), .val (.ref d2), .val (.ref po), .unset] [(.ref d2), (.ref a)])) _
    refine st3 _ ?_
    show Steps p.tables e below (T3.setTop (mkF m 14 #[.val (.ref a), .val (.ref d1), .val (.ref d2), .val (.ref po), .unset] [])) _
    refine XS.aloadN X3.here hx rfl (hb hby own_d_prog_68_method_1_code_14) rfl rfl ?_
    show Steps p.tables e below (T3.setTop (mkF m 15 #[.val (.ref a), .val (.ref d1), .val (.ref d2), .val (.ref po), .unset] [(.ref a)])) _
    refine XS.aloadN X3.here hx rfl (hb hby own_d_prog_68_method_1_code_15) rfl rfl ?_
    show Steps p.tables e below (T3.setTop (mkF m 16 #[.val (.ref a), .val (.ref d1), .val (.ref d2), .val (.ref po), .unset] [(.ref po), (.ref a)])) _
    refine st4 _ ?_
    show Steps p.tables e below (T4.setTop (mkF m 19 #[.val (.ref a), .val (.ref d1), .val (.ref d2), .val (.ref po), .unset] [])) _
    refine XS.aloadN X4.here hx rfl (hb hby own_d_prog_68_method_1_code_19) rfl rfl ?_
    show Steps p.tables e below (T4.setTop (mkF m 20 #[.val (.ref a), .val (.ref d1), .val (.ref d2), .val (.ref po), .unset] [(.ref po)])) _
    refine XS.ifnonnullYes X4.here hx rfl (pc0 := 20) (pc' := 31) rfl (hb hby own_d_prog_68_method_1_code_20) rfl (by decide) (by decide) ?_
    show Steps p.tables e below (T4.setTop (mkF m 31 #[.val (.ref a), .val (.ref d1), .val (.ref d2), .val (.ref po), .unset] [])) _
    refine XS.aloadN X4.here hx rfl (hb hby own_d_prog_68_method_1_code_31) rfl rfl ?_
    show Steps p.tables e below (T4.setTop (mkF m 32 #[.val (.ref a), .val (.ref d1), .val (.ref d2), .val (.ref po), .unset] [(.ref a)])) _
    refine XS.aloadN X4.here hx rfl (hb hby own_d_prog_68_method_1_code_32) rfl rfl ?_
    show Steps p.tables e below (T4.setTop (mkF m 33 #[.val (.ref a), .val (.ref d1), .val (.ref d2), .val (.ref po), .unset] [(.ref d1), (.ref a)])) _
    refine X4.arraylength hx (by rw [e4]; exact Ar5.1) (State.isArrayOf_alike hZ.alike Ar5.2.1) (g := (mkF m 33 #[.val (.ref a), .val (.ref d1), .val (.ref d2), .val (.ref po), .unset] [(.ref d1), (.ref a)])) rfl rfl (hb hby own_d_prog_68_method_1_code_33) _ ?_
    rw [len_of S5 M5]
    show Steps p.tables e below (T4.setTop (mkF m 34 #[.val (.ref a), .val (.ref d1), .val (.ref d2), .val (.ref po), .unset] [(.int (0 : Int32)), (.ref a)])) _
    refine st6 _ ?_
    show Steps p.tables e below (T6.setTop (mkF m 36 #[.val (.ref a), .val (.ref d1), .val (.ref d2), .val (.ref po), .unset] [(.ref b6), (.ref a)])) _
    refine st7 _ ?_
    show Steps p.tables e below (T7.setTop (mkF m 39 #[.val (.ref a), .val (.ref d1), .val (.ref d2), .val (.ref po), .unset] [])) _
    refine XS.iconst X7.here hx rfl (hb hby own_d_prog_68_method_1_code_39) ?_
    show Steps p.tables e below (T7.setTop (mkF m 40 #[.val (.ref a), .val (.ref d1), .val (.ref d2), .val (.ref po), .unset] [(.int (1 : Int32))])) _
    refine XS.istore X7.here hx rfl (hb hby own_d_prog_68_method_1_code_40) rfl (l' := #[.val (.ref a), .val (.ref d1), .val (.ref d2), .val (.ref po), .val (.int (1 : Int32))]) rfl ?_
    show Steps p.tables e below (T7.setTop (mkF m 42 #[.val (.ref a), .val (.ref d1), .val (.ref d2), .val (.ref po), .val (.int (1 : Int32))] [])) _
    refine XS.iload X7.here hx rfl (hb hby own_d_prog_68_method_1_code_42) rfl ?_
    show Steps p.tables e below (T7.setTop (mkF m 44 #[.val (.ref a), .val (.ref d1), .val (.ref d2), .val (.ref po), .val (.int (1 : Int32))] [(.int (1 : Int32))])) _
    refine XS.aloadN X7.here hx rfl (hb hby own_d_prog_68_method_1_code_44) rfl rfl ?_
    show Steps p.tables e below (T7.setTop (mkF m 45 #[.val (.ref a), .val (.ref d1), .val (.ref d2), .val (.ref po), .val (.int (1 : Int32))] [(.ref d1), (.int (1 : Int32))])) _
    refine X7.arraylength hx (by rw [e7]; exact Ar8.1) (State.isArrayOf_alike hZ.alike Ar8.2.1) (g := (mkF m 45 #[.val (.ref a), .val (.ref d1), .val (.ref d2), .val (.ref po), .val (.int (1 : Int32))] [(.ref d1), (.int (1 : Int32))])) rfl rfl (hb hby own_d_prog_68_method_1_code_45) _ ?_
    rw [len_of S8 M8]
    show Steps p.tables e below (T7.setTop (mkF m 46 #[.val (.ref a), .val (.ref d1), .val (.ref d2), .val (.ref po), .val (.int (1 : Int32))] [(.int (0 : Int32)), (.int (1 : Int32))])) _
    refine XS.icmpYes X7.here hx rfl (pc0 := 46) (pc' := 78) rfl (hb hby own_d_prog_68_method_1_code_46) rfl (flt ((by decide) : ¬ ((1 : Int32) < (0 : Int32)))).2.1 (by decide) (by decide) ?_
    exact k)
  obtain ⟨fs, hr, hrun, hended, hW, hsame⟩ := X7.leave (v := none) (fun _ => rfl)
  refine ⟨_, _, pre9 _ ?_, hrun, hended, _, _, rfl, ?_, ⟨_, rfl⟩, hW, hsame.mono (by decide) (by decide)⟩
  · show Steps p.tables e below (T7.setTop (mkF m 78 #[.val (.ref a), .val (.ref d1), .val (.ref d2), .val (.ref po), .val (.int (1 : Int32))] [])) _
    exact X7.returnOut hx Bd.returns (hb hby own_d_prog_68_method_1_code_78) hr
  · show QI Z a (.ref po) h0 n0 _ T7.heap _
    rw [e7]
    exact ⟨rfl, N7, K7, F7_2⟩
theorem own_ef_rmI1 (m : MethodId) (y0 : Addr) (y1 : Addr) (y2 : Addr) (y3 : Addr) : entryFrame m #[(.ref y0), (.ref y1), (.ref y2), (.ref y3)] 5 = mkF m 0 #[.val (.ref y0), .val (.ref y1), .val (.ref y2), .val (.ref y3), .unset] [] := by first | (simp [entryFrame, mkF, argsToLocals, Value.category]; done) | rfl
set_option maxRecDepth 65536 in
set_option maxHeartbeats 40000000 in
theorem rmI1 (l : Launch) (Z : State) (a0 : Array Value) (hw : ∀ d ∈ tables_1, d.before a0 Z = true) (ws : List Jvm.Cond) (a d1 d2 po : Addr) (k1 k2 : ClassId) (f0 : Int32) (h0 : Heap) (n0 : Nat) (Z0 : n0 ≤ h0.size) (E_a : Exa Z h0 a "com/example/cranfield/cranfield/index/Postings") (g_a : n0 ≤ a) (F_documents : Fld Z h0 a "com/example/cranfield/cranfield/index/Postings" "documents" "[I" .null) (F_frequencies : Fld Z h0 a "com/example/cranfield/cranfield/index/Postings" "frequencies" "[I" .null) (F_positions : Fld Z h0 a "com/example/cranfield/cranfield/index/Postings" "positions" "[I" .null) (F_firstPositions : Fld Z h0 a "com/example/cranfield/cranfield/index/Postings" "firstPositions" "[I" .null) (A1 : Arv Z h0 d1 k1 .int (1 : Int32) [(.int (1 : Int32))] (.int (0 : Int32))) (A2 : Arv Z h0 d2 k2 .int (1 : Int32) [(.int f0)] (.int (0 : Int32))) (ne1 : a ≠ d1) (ne2 : a ≠ d2) :
    MetFree l (⟨"com/example/cranfield/cranfield/index/Postings", "<init>", "([I[I[I)V"⟩ : MethodName) (head1 (Jvm.Cond.code (⟨"com/example/cranfield/cranfield/index/Postings", "<init>", "([I[I[I)V"⟩ : MethodName) prog_68_method_1_code 5 none :: ws) ({ frames := 1, cells := 1, slots := 1, locals := 12 } : Room)) (fun ar_ U => ar_ = #[(.ref a), (.ref d1), (.ref d2), (.ref po)] ∧ Z.Warmed39 U.vm ∧ U.heap = h0) (fun _ _ _ _ _ => True) (fun _ U o U' => ∃ v L, o = .returned v ∧ QI Z a (.ref po) h0 n0 v U'.heap L ∧ FrameEnd U o U' L ({ frames := 1, cells := 1, slots := 1, locals := 12 } : Room).cells ({ frames := 1, cells := 1, slots := 1, locals := 12 } : Room).slots) := by
  refine MetFree.of_bodySF (plainFor_of_name own_pn0) hisR ?_
  intro p e s m args below meth c s₁ Bd hml0 hP hK
  obtain ⟨rfl, hZ, hh⟩ := hP
  have hx := Bd.exec
  have hby := Bd.bytes
  have hml : c.maxLocals = 5 := hml0
  have hown : s.vm.findClass "com/example/cranfield/cranfield/index/Postings" = some m.cls := findClass_of_methodNamed Bd.named
  have hnm := (name_of_methodNamed Bd.named Bd.method).1
  have X0 : Stand p l e ({ frames := 1, cells := 1, slots := 1, locals := 12 } : Room) s m #[(.ref a), (.ref d1), (.ref d2), (.ref po)] below meth c s₁ [] 0 0 := Stand.of_body Bd
  have e0 : s₁.heap = h0 := by rw [← hh, Bd.state]; rfl
  have N0 := Fr.nil n0
  have pre0 : ∀ t, Steps p.tables e below (s₁.setTop (mkF m 0 #[.val (.ref a), .val (.ref d1), .val (.ref d2), .val (.ref po), .unset] [])) t → Steps p.tables e below (s₁.setTop (entryFrame m #[(.ref a), (.ref d1), (.ref d2), (.ref po)] 5)) t := fun t k => castTop (own_ef_rmI1 m a d1 d2 po) k
  obtain ⟨T1, X1, e1, st1⟩ := initO X0 hx hZ hown (hw _ (List.mem_of_getElem? (i := 7) rfl)) (hw _ (List.mem_of_getElem? (i := 8) rfl)) (hw _ (List.mem_of_getElem? (i := 9) rfl)) e0 (g := (mkF m 1 #[.val (.ref a), .val (.ref d1), .val (.ref d2), .val (.ref po), .unset] [(.ref a)])) rfl (by rw [hml]; rfl) rfl (hb hby own_d_prog_68_method_1_code_1) (by decide) (W := 0) (by show 2 * 0 + _ ≤ _; exact Nat.le_of_eq rfl) (by decide)
  obtain ⟨T2, h2, X2, e2, W2, st2⟩ := putF X1 hx hZ hown (host := "") (Or.inl (hw _ (List.mem_of_getElem? (i := 10) rfl))) Via.refl e1 F_documents E_a (Or.inr ⟨(hw _ (List.mem_of_getElem? (i := 11) rfl)), rfl, hnm⟩) (hw _ (List.mem_of_getElem? (i := 2) rfl)) (ty := (.array .int)) (by decide) rfl rfl (g := (mkF m 6 #[.val (.ref a), .val (.ref d1), .val (.ref d2), .val (.ref po), .unset] [(.ref d1), (.ref a)])) rfl rfl (hb hby own_d_prog_68_method_1_code_6)
  have F2_0 := F_documents.same W2
  have F2_1 := F_frequencies.other W2 (Or.inr (slot_ne (Or.inr (hw _ (List.mem_of_getElem? (i := 13) rfl))) (Or.inr (hw _ (List.mem_of_getElem? (i := 11) rfl))) (by decide) (t := (.array .int)) (t' := (.array .int)) (by decide) (by decide)))
  have F2_2 := F_positions.other W2 (Or.inr (slot_ne (Or.inr (hw _ (List.mem_of_getElem? (i := 15) rfl))) (Or.inr (hw _ (List.mem_of_getElem? (i := 11) rfl))) (by decide) (t := (.array .int)) (t' := (.array .int)) (by decide) (by decide)))
  have F2_3 := F_firstPositions.other W2 (Or.inr (slot_ne (Or.inr (hw _ (List.mem_of_getElem? (i := 17) rfl))) (Or.inr (hw _ (List.mem_of_getElem? (i := 11) rfl))) (by decide) (t := (.array .int)) (t' := (.array .int)) (by decide) (by decide)))
  have X2_0 := E_a.wr W2
  have V2_0 := A1.other W2 (Ne.symm ne1)
  have V2_1 := A2.other W2 (Ne.symm ne2)
  have z2 : n0 ≤ h2.size := by rw [W2.size]; exact Z0
  have K2 : Keep h0 h2 [a] := (Keep.refl h0 [a]).wr W2 (Or.inl (by simp))
  have N2 := Fr.snoc X2 N0 g_a
  obtain ⟨T3, h3, X3, e3, W3, st3⟩ := putF X2 hx hZ hown (host := "") (Or.inl (hw _ (List.mem_of_getElem? (i := 12) rfl))) Via.refl e2 F2_1 X2_0 (Or.inr ⟨(hw _ (List.mem_of_getElem? (i := 13) rfl)), rfl, hnm⟩) (hw _ (List.mem_of_getElem? (i := 2) rfl)) (ty := (.array .int)) (by decide) rfl rfl (g := (mkF m 11 #[.val (.ref a), .val (.ref d1), .val (.ref d2), .val (.ref po), .unset] [(.ref d2), (.ref a)])) rfl rfl (hb hby own_d_prog_68_method_1_code_11)
  have F3_0 := F2_0.other W3 (Or.inr (slot_ne (Or.inr (hw _ (List.mem_of_getElem? (i := 11) rfl))) (Or.inr (hw _ (List.mem_of_getElem? (i := 13) rfl))) (by decide) (t := (.array .int)) (t' := (.array .int)) (by decide) (by decide)))
  have F3_1 := F2_1.same W3
  have F3_2 := F2_2.other W3 (Or.inr (slot_ne (Or.inr (hw _ (List.mem_of_getElem? (i := 15) rfl))) (Or.inr (hw _ (List.mem_of_getElem? (i := 13) rfl))) (by decide) (t := (.array .int)) (t' := (.array .int)) (by decide) (by decide)))
  have F3_3 := F2_3.other W3 (Or.inr (slot_ne (Or.inr (hw _ (List.mem_of_getElem? (i := 17) rfl))) (Or.inr (hw _ (List.mem_of_getElem? (i := 13) rfl))) (by decide) (t := (.array .int)) (t' := (.array .int)) (by decide) (by decide)))
  have X3_0 := X2_0.wr W3
  have V3_0 := V2_0.other W3 (Ne.symm ne1)
  have V3_1 := V2_1.other W3 (Ne.symm ne2)
  have z3 : n0 ≤ h3.size := by rw [W3.size]; exact z2
  have K3 : Keep h0 h3 [a] := K2.wr W3 (Or.inl (by simp))
  have N3 := Fr.snoc X3 N2 g_a
  obtain ⟨T4, h4, X4, e4, W4, st4⟩ := putF X3 hx hZ hown (host := "") (Or.inl (hw _ (List.mem_of_getElem? (i := 14) rfl))) Via.refl e3 F3_2 X3_0 (Or.inr ⟨(hw _ (List.mem_of_getElem? (i := 15) rfl)), rfl, hnm⟩) (hw _ (List.mem_of_getElem? (i := 2) rfl)) (ty := (.array .int)) (by decide) rfl rfl (g := (mkF m 16 #[.val (.ref a), .val (.ref d1), .val (.ref d2), .val (.ref po), .unset] [(.ref po), (.ref a)])) rfl rfl (hb hby own_d_prog_68_method_1_code_16)
  have F4_0 := F3_0.other W4 (Or.inr (slot_ne (Or.inr (hw _ (List.mem_of_getElem? (i := 11) rfl))) (Or.inr (hw _ (List.mem_of_getElem? (i := 15) rfl))) (by decide) (t := (.array .int)) (t' := (.array .int)) (by decide) (by decide)))
  have F4_1 := F3_1.other W4 (Or.inr (slot_ne (Or.inr (hw _ (List.mem_of_getElem? (i := 13) rfl))) (Or.inr (hw _ (List.mem_of_getElem? (i := 15) rfl))) (by decide) (t := (.array .int)) (t' := (.array .int)) (by decide) (by decide)))
  have F4_2 := F3_2.same W4
  have F4_3 := F3_3.other W4 (Or.inr (slot_ne (Or.inr (hw _ (List.mem_of_getElem? (i := 17) rfl))) (Or.inr (hw _ (List.mem_of_getElem? (i := 15) rfl))) (by decide) (t := (.array .int)) (t' := (.array .int)) (by decide) (by decide)))
  have X4_0 := X3_0.wr W4
  have V4_0 := V3_0.other W4 (Ne.symm ne1)
  have V4_1 := V3_1.other W4 (Ne.symm ne2)
  have z4 : n0 ≤ h4.size := by rw [W4.size]; exact z3
  have K4 : Keep h0 h4 [a] := K3.wr W4 (Or.inl (by simp))
  have N4 := Fr.snoc X4 N3 g_a
  obtain ⟨cl5, Ar5, q5, S5, M5, H5, G5⟩ := id V4_0
  obtain ⟨T6, h6, k6, X6, e6, E6, A6, st6⟩ := newP X4 hx hZ (hw _ (List.mem_of_getElem? (i := 0) rfl)) e4 (g := (mkF m 34 #[.val (.ref a), .val (.ref d1), .val (.ref d2), .val (.ref po), .unset] [(.int (1 : Int32)), (.ref a)])) rfl (hb hby own_d_prog_68_method_1_code_34) rfl (by decide) (cap := 1) (by decide) (by decide) (by decide) (by decide)
  obtain ⟨b6, g6⟩ : ∃ z, z = h4.size := ⟨_, rfl⟩
  rw [← g6] at A6 st6
  have ne_a_b6 : a ≠ b6 := Nat.ne_of_lt (Nat.lt_of_lt_of_le (X4_0).lt (Nat.le_of_eq g6.symm))
  have ne_d1_b6 : d1 ≠ b6 := Nat.ne_of_lt (Nat.lt_of_lt_of_le (V4_0).lt (Nat.le_of_eq g6.symm))
  have ne_d2_b6 : d2 ≠ b6 := Nat.ne_of_lt (Nat.lt_of_lt_of_le (V4_1).lt (Nat.le_of_eq g6.symm))
  have g_b6 : n0 ≤ b6 := Nat.le_trans z4 (Nat.le_of_eq g6.symm)
  have sz_b6 : h0.size ≤ b6 := Nat.le_trans K4.1 (Nat.le_of_eq g6.symm)
  have F6_0 := F4_0.ext E6
  have F6_1 := F4_1.ext E6
  have F6_2 := F4_2.ext E6
  have F6_3 := F4_3.ext E6
  have X6_0 := X4_0.ext E6
  have V6_0 := V4_0.ext E6
  have V6_1 := V4_1.ext E6
  have z6 : n0 ≤ h6.size := Nat.le_trans z4 E6.1
  have K6 : Keep h0 h6 [a] := K4.ext E6
  have V_b6 : Arv Z h6 b6 k6 .int (1 : Int32) [(.int (0 : Int32))] (.int (0 : Int32)) := (Arv.new A6 (by decide)).pad (pad_rep [] (.int (0 : Int32)) 1)
  obtain ⟨T7, h7, X7, e7, W7, st7⟩ := putF X6 hx hZ hown (host := "") (Or.inl (hw _ (List.mem_of_getElem? (i := 16) rfl))) Via.refl e6 F6_3 X6_0 (Or.inr ⟨(hw _ (List.mem_of_getElem? (i := 17) rfl)), rfl, hnm⟩) (hw _ (List.mem_of_getElem? (i := 2) rfl)) (ty := (.array .int)) (by decide) rfl rfl (g := (mkF m 36 #[.val (.ref a), .val (.ref d1), .val (.ref d2), .val (.ref po), .unset] [(.ref b6), (.ref a)])) rfl rfl (hb hby own_d_prog_68_method_1_code_36)
  have F7_0 := F6_0.other W7 (Or.inr (slot_ne (Or.inr (hw _ (List.mem_of_getElem? (i := 11) rfl))) (Or.inr (hw _ (List.mem_of_getElem? (i := 17) rfl))) (by decide) (t := (.array .int)) (t' := (.array .int)) (by decide) (by decide)))
  have F7_1 := F6_1.other W7 (Or.inr (slot_ne (Or.inr (hw _ (List.mem_of_getElem? (i := 13) rfl))) (Or.inr (hw _ (List.mem_of_getElem? (i := 17) rfl))) (by decide) (t := (.array .int)) (t' := (.array .int)) (by decide) (by decide)))
  have F7_2 := F6_2.other W7 (Or.inr (slot_ne (Or.inr (hw _ (List.mem_of_getElem? (i := 15) rfl))) (Or.inr (hw _ (List.mem_of_getElem? (i := 17) rfl))) (by decide) (t := (.array .int)) (t' := (.array .int)) (by decide) (by decide)))
  have F7_3 := F6_3.same W7
  have X7_0 := X6_0.wr W7
  have V7_0 := V6_0.other W7 (Ne.symm ne1)
  have V7_1 := V6_1.other W7 (Ne.symm ne2)
  have V7_2 := V_b6.other W7 (Ne.symm ne_a_b6)
  have z7 : n0 ≤ h7.size := by rw [W7.size]; exact z6
  have K7 : Keep h0 h7 [a] := K6.wr W7 (Or.inl (by simp))
  have N7 := Fr.snoc X7 N4 g_a
  obtain ⟨cl8, Ar8, q8, S8, M8, H8, G8⟩ := id V7_0
  have pre9 : ∀ t, Steps p.tables e below (T7.setTop (mkF m 78 #[.val (.ref a), .val (.ref d1), .val (.ref d2), .val (.ref po), .val (.int (1 : Int32))] [])) t → Steps p.tables e below (s₁.setTop (entryFrame m #[(.ref a), (.ref d1), (.ref d2), (.ref po)] 5)) t := fun t k => pre0 t (by
    show Steps p.tables e below (s₁.setTop (mkF m 0 #[.val (.ref a), .val (.ref d1), .val (.ref d2), .val (.ref po), .unset] [])) _
    refine XS.aloadN X0.here hx rfl (hb hby own_d_prog_68_method_1_code_0) rfl rfl ?_
    show Steps p.tables e below (s₁.setTop (mkF m 1 #[.val (.ref a), .val (.ref d1), .val (.ref d2), .val (.ref po), .unset] [(.ref a)])) _
    refine st1 _ ?_
    show Steps p.tables e below (T1.setTop (mkF m 4 #[.val (.ref a), .val (.ref d1), .val (.ref d2), .val (.ref po), .unset] [])) _
    refine XS.aloadN X1.here hx rfl (hb hby own_d_prog_68_method_1_code_4) rfl rfl ?_
    show Steps p.tables e below (T1.setTop (mkF m 5 #[.val (.ref a), .val (.ref d1), .val (.ref d2), .val (.ref po), .unset] [(.ref a)])) _
    refine XS.aloadN X1.here hx rfl (hb hby own_d_prog_68_method_1_code_5) rfl rfl ?_
    show Steps p.tables e below (T1.setTop (mkF m 6 #[.val (.ref a), .val (.ref d1), .val (.ref d2), .val (.ref po), .unset] [(.ref d1), (.ref a)])) _
    refine st2 _ ?_
    show Steps p.tables e below (T2.setTop (mkF m 9 #[.val (.ref a), .val (.ref d1), .val (.ref d2), .val (.ref po), .unset] [])) _
    refine XS.aloadN X2.here hx rfl (hb hby own_d_prog_68_method_1_code_9) rfl rfl ?_
    show Steps p.tables e below (T2.setTop (mkF m 10 #[.val (.ref a), .val (.ref d1), .val (.ref d2), .val (.ref po), .unset] [(.ref a)])) _
    refine XS.aloadN X2.here hx rfl (hb hby own_d_prog_68_method_1_code_10) rfl rfl ?_
    show Steps p.tables e below (T2.setTop (mkF m 11 #[.val (.ref a), .val (.ref d1), .val (.ref d2), .val (.ref po), .unset] [(.ref d2), (.ref a)])) _
    refine st3 _ ?_
    show Steps p.tables e below (T3.setTop (mkF m 14 #[.val (.ref a), .val (.ref d1), .val (.ref d2), .val (.ref po), .unset] [])) _
    refine XS.aloadN X3.here hx rfl (hb hby own_d_prog_68_method_1_code_14) rfl rfl ?_
    show Steps p.tables e below (T3.setTop (mkF m 15 #[.val (.ref a), .val (.ref d1), .val (.ref d2), .val (.ref po), .unset] [(.ref a)])) _
    refine XS.aloadN X3.here hx rfl (hb hby own_d_prog_68_method_1_code_15) rfl rfl ?_
    show Steps p.tables e below (T3.setTop (mkF m 16 #[.val (.ref a), .val (.ref d1), .val (.ref d2), .val (.ref po), .unset] [(.ref po), (.ref a)])) _
    refine st4 _ ?_
    show Steps p.tables e below (T4.setTop (mkF m 19 #[.val (.ref a), .val (.ref d1), .val (.ref d2), .val (.ref po), .unset] [])) _
    refine XS.aloadN X4.here hx rfl (hb hby own_d_prog_68_method_1_code_19) rfl rfl ?_
    show Steps p.tables e below (T4.setTop (mkF m 20 #[.val (.ref a), .val (.ref d1), .val (.ref d2), .val (.ref po), .unset] [(.ref po)])) _
    refine XS.ifnonnullYes X4.here hx rfl (pc0 := 20) (pc' := 31) rfl (hb hby own_d_prog_68_method_1_code_20) rfl (by decide) (by decide) ?_
    show Steps p.tables e below (T4.setTop (mkF m 31 #[.val (.ref a), .val (.ref d1), .val (.ref d2), .val (.ref po), .unset] [])) _
    refine XS.aloadN X4.here hx rfl (hb hby own_d_prog_68_method_1_code_31) rfl rfl ?_
    show Steps p.tables e below (T4.setTop (mkF m 32 #[.val (.ref a), .val (.ref d1), .val (.ref d2), .val (.ref po), .unset] [(.ref a)])) _
    refine XS.aloadN X4.here hx rfl (hb hby own_d_prog_68_method_1_code_32) rfl rfl ?_
    show Steps p.tables e below (T4.setTop (mkF m 33 #[.val (.ref a), .val (.ref d1), .val (.ref d2), .val (.ref po), .unset] [(.ref d1), (.ref a)])) _
    refine X4.arraylength hx (by rw [e4]; exact Ar5.1) (State.isArrayOf_alike hZ.alike Ar5.2.1) (g := (mkF m 33 #[.val (.ref a), .val (.ref d1), .val (.ref d2), .val (.ref po), .unset] [(.ref d1), (.ref a)])) rfl rfl (hb hby own_d_prog_68_method_1_code_33) _ ?_
    rw [len_of S5 M5]
    show Steps p.tables e below (T4.setTop (mkF m 34 #[.val (.ref a), .val (.ref d1), .val (.ref d2), .val (.ref po), .unset] [(.int (1 : Int32)), (.ref a)])) _
    refine st6 _ ?_
    show Steps p.tables e below (T6.setTop (mkF m 36 #[.val (.ref a), .val (.ref d1), .val (.ref d2), .val (.ref po), .unset] [(.ref b6), (.ref a)])) _
    refine st7 _ ?_
    show Steps p.tables e below (T7.setTop (mkF m 39 #[.val (.ref a), .val (.ref d1), .val (.ref d2), .val (.ref po), .unset] [])) _
    refine XS.iconst X7.here hx rfl (hb hby own_d_prog_68_method_1_code_39) ?_
    show Steps p.tables e below (T7.setTop (mkF m 40 #[.val (.ref a), .val (.ref d1), .val (.ref d2), .val (.ref po), .unset] [(.int (1 : Int32))])) _
    refine XS.istore X7.here hx rfl (hb hby own_d_prog_68_method_1_code_40) rfl (l' := #[.val (.ref a), .val (.ref d1), .val (.ref d2), .val (.ref po), .val (.int (1 : Int32))]) rfl ?_
    show Steps p.tables e below (T7.setTop (mkF m 42 #[.val (.ref a), .val (.ref d1), .val (.ref d2), .val (.ref po), .val (.int (1 : Int32))] [])) _
    refine XS.iload X7.here hx rfl (hb hby own_d_prog_68_method_1_code_42) rfl ?_
    show Steps p.tables e below (T7.setTop (mkF m 44 #[.val (.ref a), .val (.ref d1), .val (.ref d2), .val (.ref po), .val (.int (1 : Int32))] [(.int (1 : Int32))])) _
    refine XS.aloadN X7.here hx rfl (hb hby own_d_prog_68_method_1_code_44) rfl rfl ?_
    show Steps p.tables e below (T7.setTop (mkF m 45 #[.val (.ref a), .val (.ref d1), .val (.ref d2), .val (.ref po), .val (.int (1 : Int32))] [(.ref d1), (.int (1 : Int32))])) _
    refine X7.arraylength hx (by rw [e7]; exact Ar8.1) (State.isArrayOf_alike hZ.alike Ar8.2.1) (g := (mkF m 45 #[.val (.ref a), .val (.ref d1), .val (.ref d2), .val (.ref po), .val (.int (1 : Int32))] [(.ref d1), (.int (1 : Int32))])) rfl rfl (hb hby own_d_prog_68_method_1_code_45) _ ?_
    rw [len_of S8 M8]
    show Steps p.tables e below (T7.setTop (mkF m 46 #[.val (.ref a), .val (.ref d1), .val (.ref d2), .val (.ref po), .val (.int (1 : Int32))] [(.int (1 : Int32)), (.int (1 : Int32))])) _
    refine XS.icmpYes X7.here hx rfl (pc0 := 46) (pc' := 78) rfl (hb hby own_d_prog_68_method_1_code_46) rfl (flt ((by decide) : ¬ ((1 : Int32) < (1 : Int32)))).2.1 (by decide) (by decide) ?_
    exact k)
  obtain ⟨fs, hr, hrun, hended, hW, hsame⟩ := X7.leave (v := none) (fun _ => rfl)
  refine ⟨_, _, pre9 _ ?_, hrun, hended, _, _, rfl, ?_, ⟨_, rfl⟩, hW, hsame.mono (by decide) (by decide)⟩
  · show Steps p.tables e below (T7.setTop (mkF m 78 #[.val (.ref a), .val (.ref d1), .val (.ref d2), .val (.ref po), .val (.int (1 : Int32))] [])) _
    exact X7.returnOut hx Bd.returns (hb hby own_d_prog_68_method_1_code_78) hr
  · show QI Z a (.ref po) h0 n0 _ T7.heap _
    rw [e7]
    exact ⟨rfl, N7, K7, F7_2⟩
theorem own_ef_rmI2 (m : MethodId) (y0 : Addr) (y1 : Addr) (y2 : Addr) (y3 : Addr) : entryFrame m #[(.ref y0), (.ref y1), (.ref y2), (.ref y3)] 5 = mkF m 0 #[.val (.ref y0), .val (.ref y1), .val (.ref y2), .val (.ref y3), .unset] [] := by first | (simp [entryFrame, mkF, argsToLocals, Value.category]; done) | rfl
set_option maxRecDepth 65536 in
set_option maxHeartbeats 40000000 in
theorem rmI2 (l : Launch) (Z : State) (a0 : Array Value) (hw : ∀ d ∈ tables_1, d.before a0 Z = true) (ws : List Jvm.Cond) (a d1 d2 po : Addr) (k1 k2 : ClassId) (f0 f1 : Int32) (h0 : Heap) (n0 : Nat) (Z0 : n0 ≤ h0.size) (E_a : Exa Z h0 a "com/example/cranfield/cranfield/index/Postings") (g_a : n0 ≤ a) (F_documents : Fld Z h0 a "com/example/cranfield/cranfield/index/Postings" "documents" "[I" .null) (F_frequencies : Fld Z h0 a "com/example/cranfield/cranfield/index/Postings" "frequencies" "[I" .null) (F_positions : Fld Z h0 a "com/example/cranfield/cranfield/index/Postings" "positions" "[I" .null) (F_firstPositions : Fld Z h0 a "com/example/cranfield/cranfield/index/Postings" "firstPositions" "[I" .null) (A1 : Arv Z h0 d1 k1 .int (2 : Int32) [(.int (1 : Int32)), (.int (2 : Int32))] (.int (0 : Int32))) (A2 : Arv Z h0 d2 k2 .int (2 : Int32) [(.int f0), (.int f1)] (.int (0 : Int32))) (ne1 : a ≠ d1) (ne2 : a ≠ d2) :
    MetFree l (⟨"com/example/cranfield/cranfield/index/Postings", "<init>", "([I[I[I)V"⟩ : MethodName) (head1 (Jvm.Cond.code (⟨"com/example/cranfield/cranfield/index/Postings", "<init>", "([I[I[I)V"⟩ : MethodName) prog_68_method_1_code 5 none :: ws) ({ frames := 1, cells := 1, slots := 2, locals := 12 } : Room)) (fun ar_ U => ar_ = #[(.ref a), (.ref d1), (.ref d2), (.ref po)] ∧ Z.Warmed39 U.vm ∧ U.heap = h0) (fun _ _ _ _ _ => True) (fun _ U o U' => ∃ v L, o = .returned v ∧ QI Z a (.ref po) h0 n0 v U'.heap L ∧ FrameEnd U o U' L ({ frames := 1, cells := 1, slots := 2, locals := 12 } : Room).cells ({ frames := 1, cells := 1, slots := 2, locals := 12 } : Room).slots) := by
  refine MetFree.of_bodySF (plainFor_of_name own_pn0) hisR ?_
  intro p e s m args below meth c s₁ Bd hml0 hP hK
  obtain ⟨rfl, hZ, hh⟩ := hP
  have hx := Bd.exec
  have hby := Bd.bytes
  have hml : c.maxLocals = 5 := hml0
  have hown : s.vm.findClass "com/example/cranfield/cranfield/index/Postings" = some m.cls := findClass_of_methodNamed Bd.named
  have hnm := (name_of_methodNamed Bd.named Bd.method).1
  have X0 : Stand p l e ({ frames := 1, cells := 1, slots := 2, locals := 12 } : Room) s m #[(.ref a), (.ref d1), (.ref d2), (.ref po)] below meth c s₁ [] 0 0 := Stand.of_body Bd
  have e0 : s₁.heap = h0 := by rw [← hh, Bd.state]; rfl
  have N0 := Fr.nil n0
  have pre0 : ∀ t, Steps p.tables e below (s₁.setTop (mkF m 0 #[.val (.ref a), .val (.ref d1), .val (.ref d2), .val (.ref po), .unset] [])) t → Steps p.tables e below (s₁.setTop (entryFrame m #[(.ref a), (.ref d1), (.ref d2), (.ref po)] 5)) t := fun t k => castTop (own_ef_rmI2 m a d1 d2 po) k
  obtain ⟨T1, X1, e1, st1⟩ := initO X0 hx hZ hown (hw _ (List.mem_of_getElem? (i := 7) rfl)) (hw _ (List.mem_of_getElem? (i := 8) rfl)) (hw _ (List.mem_of_getElem? (i := 9) rfl)) e0 (g := (mkF m 1 #[.val (.ref a), .val (.ref d1), .val (.ref d2), .val (.ref po), .unset] [(.ref a)])) rfl (by rw [hml]; rfl) rfl (hb hby own_d_prog_68_method_1_code_1) (by decide) (W := 0) (by show 2 * 0 + _ ≤ _; exact Nat.le_of_eq rfl) (by decide)
  obtain ⟨T2, h2, X2, e2, W2, st2⟩ := putF X1 hx hZ hown (host := "") (Or.inl (hw _ (List.mem_of_getElem? (i := 10) rfl))) Via.refl e1 F_documents E_a (Or.inr ⟨(hw _ (List.mem_of_getElem? (i := 11) rfl)), rfl, hnm⟩) (hw _ (List.mem_of_getElem? (i := 2) rfl)) (ty := (.array .int)) (by decide) rfl rfl (g := (mkF m 6 #[.val (.ref a), .val (.ref d1), .val (.ref d2), .val (.ref po), .unset] [(.ref d1), (.ref a)])) rfl rfl (hb hby own_d_prog_68_method_1_code_6)
  have F2_0 := F_documents.same W2
  have F2_1 := F_frequencies.other W2 (Or.inr (slot_ne (Or.inr (hw _ (List.mem_of_getElem? (i := 13) rfl))) (Or.inr (hw _ (List.mem_of_getElem? (i := 11) rfl))) (by decide) (t := (.array .int)) (t' := (.array .int)) (by decide) (by decide)))
  have F2_2 := F_positions.other W2 (Or.inr (slot_ne (Or.inr (hw _ (List.mem_of_getElem? (i := 15) rfl))) (Or.inr (hw _ (List.mem_of_getElem? (i := 11) rfl))) (by decide) (t := (.array .int)) (t' := (.array .int)) (by decide) (by decide)))
  have F2_3 := F_firstPositions.other W2 (Or.inr (slot_ne (Or.inr (hw _ (List.mem_of_getElem? (i := 17) rfl))) (Or.inr (hw _ (List.mem_of_getElem? (i := 11) rfl))) (by decide) (t := (.array .int)) (t' := (.array .int)) (by decide) (by decide)))
  have X2_0 := E_a.wr W2
  have V2_0 := A1.other W2 (Ne.symm ne1)
  have V2_1 := A2.other W2 (Ne.symm ne2)
  have z2 : n0 ≤ h2.size := by rw [W2.size]; exact Z0
  have K2 : Keep h0 h2 [a] := (Keep.refl h0 [a]).wr W2 (Or.inl (by simp))
  have N2 := Fr.snoc X2 N0 g_a
  obtain ⟨T3, h3, X3, e3, W3, st3⟩ := putF X2 hx hZ hown (host := "") (Or.inl (hw _ (List.mem_of_getElem? (i := 12) rfl))) Via.refl e2 F2_1 X2_0 (Or.inr ⟨(hw _ (List.mem_of_getElem? (i := 13) rfl)), rfl, hnm⟩) (hw _ (List.mem_of_getElem? (i := 2) rfl)) (ty := (.array .int)) (by decide) rfl rfl (g := (mkF m 11 #[.val (.ref a), .val (.ref d1), .val (.ref d2), .val (.ref po), .unset] [(.ref d2), (.ref a)])) rfl rfl (hb hby own_d_prog_68_method_1_code_11)
  have F3_0 := F2_0.other W3 (Or.inr (slot_ne (Or.inr (hw _ (List.mem_of_getElem? (i := 11) rfl))) (Or.inr (hw _ (List.mem_of_getElem? (i := 13) rfl))) (by decide) (t := (.array .int)) (t' := (.array .int)) (by decide) (by decide)))
  have F3_1 := F2_1.same W3
  have F3_2 := F2_2.other W3 (Or.inr (slot_ne (Or.inr (hw _ (List.mem_of_getElem? (i := 15) rfl))) (Or.inr (hw _ (List.mem_of_getElem? (i := 13) rfl))) (by decide) (t := (.array .int)) (t' := (.array .int)) (by decide) (by decide)))
  have F3_3 := F2_3.other W3 (Or.inr (slot_ne (Or.inr (hw _ (List.mem_of_getElem? (i := 17) rfl))) (Or.inr (hw _ (List.mem_of_getElem? (i := 13) rfl))) (by decide) (t := (.array .int)) (t' := (.array .int)) (by decide) (by decide)))
  have X3_0 := X2_0.wr W3
  have V3_0 := V2_0.other W3 (Ne.symm ne1)
  have V3_1 := V2_1.other W3 (Ne.symm ne2)
  have z3 : n0 ≤ h3.size := by rw [W3.size]; exact z2
  have K3 : Keep h0 h3 [a] := K2.wr W3 (Or.inl (by simp))
  have N3 := Fr.snoc X3 N2 g_a
  obtain ⟨T4, h4, X4, e4, W4, st4⟩ := putF X3 hx hZ hown (host := "") (Or.inl (hw _ (List.mem_of_getElem? (i := 14) rfl))) Via.refl e3 F3_2 X3_0 (Or.inr ⟨(hw _ (List.mem_of_getElem? (i := 15) rfl)), rfl, hnm⟩) (hw _ (List.mem_of_getElem? (i := 2) rfl)) (ty := (.array .int)) (by decide) rfl rfl (g := (mkF m 16 #[.val (.ref a), .val (.ref d1), .val (.ref d2), .val (.ref po), .unset] [(.ref po), (.ref a)])) rfl rfl (hb hby own_d_prog_68_method_1_code_16)
  have F4_0 := F3_0.other W4 (Or.inr (slot_ne (Or.inr (hw _ (List.mem_of_getElem? (i := 11) rfl))) (Or.inr (hw _ (List.mem_of_getElem? (i := 15) rfl))) (by decide) (t := (.array .int)) (t' := (.array .int)) (by decide) (by decide)))
  have F4_1 := F3_1.other W4 (Or.inr (slot_ne (Or.inr (hw _ (List.mem_of_getElem? (i := 13) rfl))) (Or.inr (hw _ (List.mem_of_getElem? (i := 15) rfl))) (by decide) (t := (.array .int)) (t' := (.array .int)) (by decide) (by decide)))
  have F4_2 := F3_2.same W4
  have F4_3 := F3_3.other W4 (Or.inr (slot_ne (Or.inr (hw _ (List.mem_of_getElem? (i := 17) rfl))) (Or.inr (hw _ (List.mem_of_getElem? (i := 15) rfl))) (by decide) (t := (.array .int)) (t' := (.array .int)) (by decide) (by decide)))
  have X4_0 := X3_0.wr W4
  have V4_0 := V3_0.other W4 (Ne.symm ne1)
  have V4_1 := V3_1.other W4 (Ne.symm ne2)
  have z4 : n0 ≤ h4.size := by rw [W4.size]; exact z3
  have K4 : Keep h0 h4 [a] := K3.wr W4 (Or.inl (by simp))
  have N4 := Fr.snoc X4 N3 g_a
  obtain ⟨cl5, Ar5, q5, S5, M5, H5, G5⟩ := id V4_0
  obtain ⟨T6, h6, k6, X6, e6, E6, A6, st6⟩ := newP X4 hx hZ (hw _ (List.mem_of_getElem? (i := 0) rfl)) e4 (g := (mkF m 34 #[.val (.ref a), .val (.ref d1), .val (.ref d2), .val (.ref po), .unset] [(.int (2 : Int32)), (.ref a)])) rfl (hb hby own_d_prog_68_method_1_code_34) rfl (by decide) (cap := 2) (by decide) (by decide) (by decide) (by decide)
  obtain ⟨b6, g6⟩ : ∃ z, z = h4.size := ⟨_, rfl⟩
  rw [← g6] at A6 st6
  have ne_a_b6 : a ≠ b6 := Nat.ne_of_lt (Nat.lt_of_lt_of_le (X4_0).lt (Nat.le_of_eq g6.symm))
  have ne_d1_b6 : d1 ≠ b6 := Nat.ne_of_lt (Nat.lt_of_lt_of_le (V4_0).lt (Nat.le_of_eq g6.symm))
  have ne_d2_b6 : d2 ≠ b6 := Nat.ne_of_lt (Nat.lt_of_lt_of_le (V4_1).lt (Nat.le_of_eq g6.symm))
  have g_b6 : n0 ≤ b6 := Nat.le_trans z4 (Nat.le_of_eq g6.symm)
  have sz_b6 : h0.size ≤ b6 := Nat.le_trans K4.1 (Nat.le_of_eq g6.symm)
  have F6_0 := F4_0.ext E6
  have F6_1 := F4_1.ext E6
  have F6_2 := F4_2.ext E6
  have F6_3 := F4_3.ext E6
  have X6_0 := X4_0.ext E6
  have V6_0 := V4_0.ext E6
  have V6_1 := V4_1.ext E6
  have z6 : n0 ≤ h6.size := Nat.le_trans z4 E6.1
  have K6 : Keep h0 h6 [a] := K4.ext E6
  have V_b6 : Arv Z h6 b6 k6 .int (2 : Int32) [(.int (0 : Int32)), (.int (0 : Int32))] (.int (0 : Int32)) := (Arv.new A6 (by decide)).pad (pad_rep [] (.int (0 : Int32)) 2)
  obtain ⟨T7, h7, X7, e7, W7, st7⟩ := putF X6 hx hZ hown (host := "") (Or.inl (hw _ (List.mem_of_getElem? (i := 16) rfl))) Via.refl e6 F6_3 X6_0 (Or.inr ⟨(hw _ (List.mem_of_getElem? (i := 17) rfl)), rfl, hnm⟩) (hw _ (List.mem_of_getElem? (i := 2) rfl)) (ty := (.array .int)) (by decide) rfl rfl (g := (mkF m 36 #[.val (.ref a), .val (.ref d1), .val (.ref d2), .val (.ref po), .unset] [(.ref b6), (.ref a)])) rfl rfl (hb hby own_d_prog_68_method_1_code_36)
  have F7_0 := F6_0.other W7 (Or.inr (slot_ne (Or.inr (hw _ (List.mem_of_getElem? (i := 11) rfl))) (Or.inr (hw _ (List.mem_of_getElem? (i := 17) rfl))) (by decide) (t := (.array .int)) (t' := (.array .int)) (by decide) (by decide)))
  have F7_1 := F6_1.other W7 (Or.inr (slot_ne (Or.inr (hw _ (List.mem_of_getElem? (i := 13) rfl))) (Or.inr (hw _ (List.mem_of_getElem? (i := 17) rfl))) (by decide) (t := (.array .int)) (t' := (.array .int)) (by decide) (by decide)))
  have F7_2 := F6_2.other W7 (Or.inr (slot_ne (Or.inr (hw _ (List.mem_of_getElem? (i := 15) rfl))) (Or.inr (hw _ (List.mem_of_getElem? (i := 17) rfl))) (by decide) (t := (.array .int)) (t' := (.array .int)) (by decide) (by decide)))
  have F7_3 := F6_3.same W7
  have X7_0 := X6_0.wr W7
  have V7_0 := V6_0.other W7 (Ne.symm ne1)
  have V7_1 := V6_1.other W7 (Ne.symm ne2)
  have V7_2 := V_b6.other W7 (Ne.symm ne_a_b6)
  have z7 : n0 ≤ h7.size := by rw [W7.size]; exact z6
  have K7 : Keep h0 h7 [a] := K6.wr W7 (Or.inl (by simp))
  have N7 := Fr.snoc X7 N4 g_a
  obtain ⟨cl8, Ar8, q8, S8, M8, H8, G8⟩ := id V7_0
  obtain ⟨T9, X9, e9, st9⟩ := getF X7 hx hZ hown (host := "") (Or.inl (hw _ (List.mem_of_getElem? (i := 16) rfl))) Via.refl e7 F7_3 (g := (mkF m 50 #[.val (.ref a), .val (.ref d1), .val (.ref d2), .val (.ref po), .val (.int (1 : Int32))] [(.ref a)])) rfl rfl (hb hby own_d_prog_68_method_1_code_50)
  obtain ⟨T10, X10, e10, st10⟩ := getF X9 hx hZ hown (host := "") (Or.inl (hw _ (List.mem_of_getElem? (i := 16) rfl))) Via.refl e9 F7_3 (g := (mkF m 56 #[.val (.ref a), .val (.ref d1), .val (.ref d2), .val (.ref po), .val (.int (1 : Int32))] [(.ref a), (.int (1 : Int32)), (.ref b6)])) rfl rfl (hb hby own_d_prog_68_method_1_code_56)
  have fold11 : ((1 : Int32) - (1 : Int32)) = (0 : Int32) := by decide +kernel
  obtain ⟨cl12, Ar12, q12, S12, M12, H12, G12⟩ := id V7_2
  have hin12 : ¬ ((0 : Int32) < 0 ∨ cl12.slots.size ≤ ((0 : Int32)).toNatClampNeg) := inb_of S12 ⟨by decide, by decide⟩
  have hat12 : cl12.slots[((0 : Int32)).toNatClampNeg]? = some (.int (0 : Int32)) := Has.at H12 hin12 rfl
  have fold13 : ((1 : Int32) - (1 : Int32)) = (0 : Int32) := by decide +kernel
  obtain ⟨cl14, Ar14, q14, S14, M14, H14, G14⟩ := id V7_1
  have hin14 : ¬ ((0 : Int32) < 0 ∨ cl14.slots.size ≤ ((0 : Int32)).toNatClampNeg) := inb_of S14 ⟨by decide, by decide⟩
  have hat14 : cl14.slots[((0 : Int32)).toNatClampNeg]? = some (.int f0) := Has.at H14 hin14 rfl
  obtain ⟨cl15, Ar15, q15, S15, M15, H15, G15⟩ := id V7_2
  have hin15 : ¬ ((1 : Int32) < 0 ∨ cl15.slots.size ≤ ((1 : Int32)).toNatClampNeg) := inb_of S15 ⟨by decide, by decide⟩
  obtain ⟨T16, h16, X16, e16, W16, st16⟩ := stI X10 hx hZ e10 Ar15 (j := (1 : Int32)) hin15 (g := (mkF m 71 #[.val (.ref a), .val (.ref d1), .val (.ref d2), .val (.ref po), .val (.int (1 : Int32))] [(.int ((0 : Int32) + f0)), (.int (1 : Int32)), (.ref b6)])) rfl rfl (hb hby own_d_prog_68_method_1_code_71)
  have V_b6_16 : Arv Z h16 b6 k6 .int (2 : Int32) [(.int (0 : Int32)), (.int ((0 : Int32) + f0))] (.int (0 : Int32)) := Arv.set Ar15 q15 S15 M15 H15 G15 rfl W16 1 rfl (Nat.le_of_ble_eq_true rfl)
  have F16_0 := F7_0.other W16 (Or.inl ne_a_b6)
  have F16_1 := F7_1.other W16 (Or.inl ne_a_b6)
  have F16_2 := F7_2.other W16 (Or.inl ne_a_b6)
  have F16_3 := F7_3.other W16 (Or.inl ne_a_b6)
  have X16_0 := X7_0.wr W16
  have V16_0 := V7_0.other W16 ne_d1_b6
  have V16_1 := V7_1.other W16 ne_d2_b6
  have z16 : n0 ≤ h16.size := by rw [W16.size]; exact z7
  have K16 : Keep h0 h16 [a] := K7.wr W16 (Or.inr sz_b6)
  have N16 := Fr.snoc X16 N7 g_b6
  have fold17 : ((1 : Int32) + (1 : Int32)) = (2 : Int32) := by decide +kernel
  obtain ⟨cl18, Ar18, q18, S18, M18, H18, G18⟩ := id V16_0
  have pre19 : ∀ t, Steps p.tables e below (T16.setTop (mkF m 78 #[.val (.ref a), .val (.ref d1), .val (.ref d2), .val (.ref po), .val (.int (2 : Int32))] [])) t → Steps p.tables e below (s₁.setTop (entryFrame m #[(.ref a), (.ref d1), (.ref d2), (.ref po)] 5)) t := fun t k => pre0 t (by
    show Steps p.tables e below (s₁.setTop (mkF m 0 #[.val (.ref a), .val (.ref d1), .val (.ref d2), .val (.ref po), .unset] [])) _
    refine XS.aloadN X0.here hx rfl (hb hby own_d_prog_68_method_1_code_0) rfl rfl ?_
    show Steps p.tables e below (s₁.setTop (mkF m 1 #[.val (.ref a), .val (.ref d1), .val (.ref d2), .val (.ref po), .unset] [(.ref a)])) _
    refine st1 _ ?_
    show Steps p.tables e below (T1.setTop (mkF m 4 #[.val (.ref a), .val (.ref d1), .val (.ref d2), .val (.ref po), .unset] [])) _
    refine XS.aloadN X1.here hx rfl (hb hby own_d_prog_68_method_1_code_4) rfl rfl ?_
    show Steps p.tables e below (T1.setTop (mkF m 5 #[.val (.ref a), .val (.ref d1), .val (.ref d2), .val (.ref po), .unset] [(.ref a)])) _
    refine XS.aloadN X1.here hx rfl (hb hby own_d_prog_68_method_1_code_5) rfl rfl ?_
    show Steps p.tables e below (T1.setTop (mkF m 6 #[.val (.ref a), .val (.ref d1), .val (.ref d2), .val (.ref po), .unset] [(.ref d1), (.ref a)])) _
    refine st2 _ ?_
    show Steps p.tables e below (T2.setTop (mkF m 9 #[.val (.ref a), .val (.ref d1), .val (.ref d2), .val (.ref po), .unset] [])) _
    refine XS.aloadN X2.here hx rfl (hb hby own_d_prog_68_method_1_code_9) rfl rfl ?_
    show Steps p.tables e below (T2.setTop (mkF m 10 #[.val (.ref a), .val (.ref d1), .val (.ref d2), .val (.ref po), .unset] [(.ref a)])) _
    refine XS.aloadN X2.here hx rfl (hb hby own_d_prog_68_method_1_code_10) rfl rfl ?_
    show Steps p.tables e below (T2.setTop (mkF m 11 #[.val (.ref a), .val (.ref d1), .val (.ref d2), .val (.ref po), .unset] [(.ref d2), (.ref a)])) _
    refine st3 _ ?_
    show Steps p.tables e below (T3.setTop (mkF m 14 #[.val (.ref a), .val (.ref d1), .val (.ref d2), .val (.ref po), .unset] [])) _
    refine XS.aloadN X3.here hx rfl (hb hby own_d_prog_68_method_1_code_14) rfl rfl ?_
    show Steps p.tables e below (T3.setTop (mkF m 15 #[.val (.ref a), .val (.ref d1), .val (.ref d2), .val (.ref po), .unset] [(.ref a)])) _
    refine XS.aloadN X3.here hx rfl (hb hby own_d_prog_68_method_1_code_15) rfl rfl ?_
    show Steps p.tables e below (T3.setTop (mkF m 16 #[.val (.ref a), .val (.ref d1), .val (.ref d2), .val (.ref po), .unset] [(.ref po), (.ref a)])) _
    refine st4 _ ?_
    show Steps p.tables e below (T4.setTop (mkF m 19 #[.val (.ref a), .val (.ref d1), .val (.ref d2), .val (.ref po), .unset] [])) _
    refine XS.aloadN X4.here hx rfl (hb hby own_d_prog_68_method_1_code_19) rfl rfl ?_
    show Steps p.tables e below (T4.setTop (mkF m 20 #[.val (.ref a), .val (.ref d1), .val (.ref d2), .val (.ref po), .unset] [(.ref po)])) _
    refine XS.ifnonnullYes X4.here hx rfl (pc0 := 20) (pc' := 31) rfl (hb hby own_d_prog_68_method_1_code_20) rfl (by decide) (by decide) ?_
    show Steps p.tables e below (T4.setTop (mkF m 31 #[.val (.ref a), .val (.ref d1), .val (.ref d2), .val (.ref po), .unset] [])) _
    refine XS.aloadN X4.here hx rfl (hb hby own_d_prog_68_method_1_code_31) rfl rfl ?_
    show Steps p.tables e below (T4.setTop (mkF m 32 #[.val (.ref a), .val (.ref d1), .val (.ref d2), .val (.ref po), .unset] [(.ref a)])) _
    refine XS.aloadN X4.here hx rfl (hb hby own_d_prog_68_method_1_code_32) rfl rfl ?_
    show Steps p.tables e below (T4.setTop (mkF m 33 #[.val (.ref a), .val (.ref d1), .val (.ref d2), .val (.ref po), .unset] [(.ref d1), (.ref a)])) _
    refine X4.arraylength hx (by rw [e4]; exact Ar5.1) (State.isArrayOf_alike hZ.alike Ar5.2.1) (g := (mkF m 33 #[.val (.ref a), .val (.ref d1), .val (.ref d2), .val (.ref po), .unset] [(.ref d1), (.ref a)])) rfl rfl (hb hby own_d_prog_68_method_1_code_33) _ ?_
    rw [len_of S5 M5]
    show Steps p.tables e below (T4.setTop (mkF m 34 #[.val (.ref a), .val (.ref d1), .val (.ref d2), .val (.ref po), .unset] [(.int (2 : Int32)), (.ref a)])) _
    refine st6 _ ?_
    show Steps p.tables e below (T6.setTop (mkF m 36 #[.val (.ref a), .val (.ref d1), .val (.ref d2), .val (.ref po), .unset] [(.ref b6), (.ref a)])) _
    refine st7 _ ?_
    show Steps p.tables e below (T7.setTop (mkF m 39 #[.val (.ref a), .val (.ref d1), .val (.ref d2), .val (.ref po), .unset] [])) _
    refine XS.iconst X7.here hx rfl (hb hby own_d_prog_68_method_1_code_39) ?_
    show Steps p.tables e below (T7.setTop (mkF m 40 #[.val (.ref a), .val (.ref d1), .val (.ref d2), .val (.ref po), .unset] [(.int (1 : Int32))])) _
    refine XS.istore X7.here hx rfl (hb hby own_d_prog_68_method_1_code_40) rfl (l' := #[.val (.ref a), .val (.ref d1), .val (.ref d2), .val (.ref po), .val (.int (1 : Int32))]) rfl ?_
    show Steps p.tables e below (T7.setTop (mkF m 42 #[.val (.ref a), .val (.ref d1), .val (.ref d2), .val (.ref po), .val (.int (1 : Int32))] [])) _
    refine XS.iload X7.here hx rfl (hb hby own_d_prog_68_method_1_code_42) rfl ?_
    show Steps p.tables e below (T7.setTop (mkF m 44 #[.val (.ref a), .val (.ref d1), .val (.ref d2), .val (.ref po), .val (.int (1 : Int32))] [(.int (1 : Int32))])) _
    refine XS.aloadN X7.here hx rfl (hb hby own_d_prog_68_method_1_code_44) rfl rfl ?_
    show Steps p.tables e below (T7.setTop (mkF m 45 #[.val (.ref a), .val (.ref d1), .val (.ref d2), .val (.ref po), .val (.int (1 : Int32))] [(.ref d1), (.int (1 : Int32))])) _
    refine X7.arraylength hx (by rw [e7]; exact Ar8.1) (State.isArrayOf_alike hZ.alike Ar8.2.1) (g := (mkF m 45 #[.val (.ref a), .val (.ref d1), .val (.ref d2), .val (.ref po), .val (.int (1 : Int32))] [(.ref d1), (.int (1 : Int32))])) rfl rfl (hb hby own_d_prog_68_method_1_code_45) _ ?_
    rw [len_of S8 M8]
    show Steps p.tables e below (T7.setTop (mkF m 46 #[.val (.ref a), .val (.ref d1), .val (.ref d2), .val (.ref po), .val (.int (1 : Int32))] [(.int (2 : Int32)), (.int (1 : Int32))])) _
    refine XS.icmpNo X7.here hx rfl (hb hby own_d_prog_68_method_1_code_46) rfl (tlt ((by decide) : (1 : Int32) < (2 : Int32))).2.1 ?_
    show Steps p.tables e below (T7.setTop (mkF m 49 #[.val (.ref a), .val (.ref d1), .val (.ref d2), .val (.ref po), .val (.int (1 : Int32))] [])) _
    refine XS.aloadN X7.here hx rfl (hb hby own_d_prog_68_method_1_code_49) rfl rfl ?_
    show Steps p.tables e below (T7.setTop (mkF m 50 #[.val (.ref a), .val (.ref d1), .val (.ref d2), .val (.ref po), .val (.int (1 : Int32))] [(.ref a)])) _
    refine st9 _ ?_
    show Steps p.tables e below (T9.setTop (mkF m 53 #[.val (.ref a), .val (.ref d1), .val (.ref d2), .val (.ref po), .val (.int (1 : Int32))] [(.ref b6)])) _
    refine XS.iload X9.here hx rfl (hb hby own_d_prog_68_method_1_code_53) rfl ?_
    show Steps p.tables e below (T9.setTop (mkF m 55 #[.val (.ref a), .val (.ref d1), .val (.ref d2), .val (.ref po), .val (.int (1 : Int32))] [(.int (1 : Int32)), (.ref b6)])) _
    refine XS.aloadN X9.here hx rfl (hb hby own_d_prog_68_method_1_code_55) rfl rfl ?_
    show Steps p.tables e below (T9.setTop (mkF m 56 #[.val (.ref a), .val (.ref d1), .val (.ref d2), .val (.ref po), .val (.int (1 : Int32))] [(.ref a), (.int (1 : Int32)), (.ref b6)])) _
    refine st10 _ ?_
    show Steps p.tables e below (T10.setTop (mkF m 59 #[.val (.ref a), .val (.ref d1), .val (.ref d2), .val (.ref po), .val (.int (1 : Int32))] [(.ref b6), (.int (1 : Int32)), (.ref b6)])) _
    refine XS.iload X10.here hx rfl (hb hby own_d_prog_68_method_1_code_59) rfl ?_
    show Steps p.tables e below (T10.setTop (mkF m 61 #[.val (.ref a), .val (.ref d1), .val (.ref d2), .val (.ref po), .val (.int (1 : Int32))] [(.int (1 : Int32)), (.ref b6), (.int (1 : Int32)), (.ref b6)])) _
    refine XS.iconst X10.here hx rfl (hb hby own_d_prog_68_method_1_code_61) ?_
    show Steps p.tables e below (T10.setTop (mkF m 62 #[.val (.ref a), .val (.ref d1), .val (.ref d2), .val (.ref po), .val (.int (1 : Int32))] [(.int (1 : Int32)), (.int (1 : Int32)), (.ref b6), (.int (1 : Int32)), (.ref b6)])) _
    refine XS.isub X10.here hx rfl (hb hby own_d_prog_68_method_1_code_62) rfl ?_
    show Steps p.tables e below (T10.setTop (mkF m 63 #[.val (.ref a), .val (.ref d1), .val (.ref d2), .val (.ref po), .val (.int (1 : Int32))] [(.int ((1 : Int32) - (1 : Int32))), (.ref b6), (.int (1 : Int32)), (.ref b6)])) _
    rw [fold11]
    show Steps p.tables e below (T10.setTop (mkF m 63 #[.val (.ref a), .val (.ref d1), .val (.ref d2), .val (.ref po), .val (.int (1 : Int32))] [(.int (0 : Int32)), (.ref b6), (.int (1 : Int32)), (.ref b6)])) _
    refine X10.iaload hx (j := (0 : Int32)) (v := (.int (0 : Int32))) (by rw [e10]; exact Ar12.1) (State.isArrayOf_alike hZ.alike Ar12.2.1) Ar12.2.2 hin12 hat12 (g := (mkF m 63 #[.val (.ref a), .val (.ref d1), .val (.ref d2), .val (.ref po), .val (.int (1 : Int32))] [(.int (0 : Int32)), (.ref b6), (.int (1 : Int32)), (.ref b6)])) rfl rfl (hb hby own_d_prog_68_method_1_code_63) _ ?_
    show Steps p.tables e below (T10.setTop (mkF m 64 #[.val (.ref a), .val (.ref d1), .val (.ref d2), .val (.ref po), .val (.int (1 : Int32))] [(.int (0 : Int32)), (.int (1 : Int32)), (.ref b6)])) _
    refine XS.aloadN X10.here hx rfl (hb hby own_d_prog_68_method_1_code_64) rfl rfl ?_
    show Steps p.tables e below (T10.setTop (mkF m 65 #[.val (.ref a), .val (.ref d1), .val (.ref d2), .val (.ref po), .val (.int (1 : Int32))] [(.ref d2), (.int (0 : Int32)), (.int (1 : Int32)), (.ref b6)])) _
    refine XS.iload X10.here hx rfl (hb hby own_d_prog_68_method_1_code_65) rfl ?_
    show Steps p.tables e below (T10.setTop (mkF m 67 #[.val (.ref a), .val (.ref d1), .val (.ref d2), .val (.ref po), .val (.int (1 : Int32))] [(.int (1 : Int32)), (.ref d2), (.int (0 : Int32)), (.int (1 : Int32)), (.ref b6)])) _
    refine XS.iconst X10.here hx rfl (hb hby own_d_prog_68_method_1_code_67) ?_
    show Steps p.tables e below (T10.setTop (mkF m 68 #[.val (.ref a), .val (.ref d1), .val (.ref d2), .val (.ref po), .val (.int (1 : Int32))] [(.int (1 : Int32)), (.int (1 : Int32)), (.ref d2), (.int (0 : Int32)), (.int (1 : Int32)), (.ref b6)])) _
    refine XS.isub X10.here hx rfl (hb hby own_d_prog_68_method_1_code_68) rfl ?_
    show Steps p.tables e below (T10.setTop (mkF m 69 #[.val (.ref a), .val (.ref d1), .val (.ref d2), .val (.ref po), .val (.int (1 : Int32))] [(.int ((1 : Int32) - (1 : Int32))), (.ref d2), (.int (0 : Int32)), (.int (1 : Int32)), (.ref b6)])) _
    rw [fold13]
    show Steps p.tables e below (T10.setTop (mkF m 69 #[.val (.ref a), .val (.ref d1), .val (.ref d2), .val (.ref po), .val (.int (1 : Int32))] [(.int (0 : Int32)), (.ref d2), (.int (0 : Int32)), (.int (1 : Int32)), (.ref b6)])) _
    refine X10.iaload hx (j := (0 : Int32)) (v := (.int f0)) (by rw [e10]; exact Ar14.1) (State.isArrayOf_alike hZ.alike Ar14.2.1) Ar14.2.2 hin14 hat14 (g := (mkF m 69 #[.val (.ref a), .val (.ref d1), .val (.ref d2), .val (.ref po), .val (.int (1 : Int32))] [(.int (0 : Int32)), (.ref d2), (.int (0 : Int32)), (.int (1 : Int32)), (.ref b6)])) rfl rfl (hb hby own_d_prog_68_method_1_code_69) _ ?_
    show Steps p.tables e below (T10.setTop (mkF m 70 #[.val (.ref a), .val (.ref d1), .val (.ref d2), .val (.ref po), .val (.int (1 : Int32))] [(.int f0), (.int (0 : Int32)), (.int (1 : Int32)), (.ref b6)])) _
    refine XS.iadd X10.here hx rfl (hb hby own_d_prog_68_method_1_code_70) rfl ?_
    show Steps p.tables e below (T10.setTop (mkF m 71 #[.val (.ref a), .val (.ref d1), .val (.ref d2), .val (.ref po), .val (.int (1 : Int32))] [(.int ((0 : Int32) + f0)), (.int (1 : Int32)), (.ref b6)])) _
    refine st16 _ ?_
    show Steps p.tables e below (T16.setTop (mkF m 72 #[.val (.ref a), .val (.ref d1), .val (.ref d2), .val (.ref po), .val (.int (1 : Int32))] [])) _
    refine XS.iinc X16.here hx rfl (hb hby own_d_prog_68_method_1_code_72) rfl (l' := #[.val (.ref a), .val (.ref d1), .val (.ref d2), .val (.ref po), .val (.int ((1 : Int32) + (1 : Int32)))]) rfl ?_
    show Steps p.tables e below (T16.setTop (mkF m 75 #[.val (.ref a), .val (.ref d1), .val (.ref d2), .val (.ref po), .val (.int ((1 : Int32) + (1 : Int32)))] [])) _
    rw [fold17]
    show Steps p.tables e below (T16.setTop (mkF m 75 #[.val (.ref a), .val (.ref d1), .val (.ref d2), .val (.ref po), .val (.int (2 : Int32))] [])) _
    refine XS.goto X16.here hx rfl (pc0 := 75) (pc' := 42) rfl (hb hby own_d_prog_68_method_1_code_75) (by decide) (by decide) ?_
    show Steps p.tables e below (T16.setTop (mkF m 42 #[.val (.ref a), .val (.ref d1), .val (.ref d2), .val (.ref po), .val (.int (2 : Int32))] [])) _
    refine XS.iload X16.here hx rfl (hb hby own_d_prog_68_method_1_code_42) rfl ?_
    show Steps p.tables e below (T16.setTop (mkF m 44 #[.val (.ref a), .val (.ref d1), .val (.ref d2), .val (.ref po), .val (.int (2 : Int32))] [(.int (2 : Int32))])) _
    refine XS.aloadN X16.here hx rfl (hb hby own_d_prog_68_method_1_code_44) rfl rfl ?_
    show Steps p.tables e below (T16.setTop (mkF m 45 #[.val (.ref a), .val (.ref d1), .val (.ref d2), .val (.ref po), .val (.int (2 : Int32))] [(.ref d1), (.int (2 : Int32))])) _
    refine X16.arraylength hx (by rw [e16]; exact Ar18.1) (State.isArrayOf_alike hZ.alike Ar18.2.1) (g := (mkF m 45 #[.val (.ref a), .val (.ref d1), .val (.ref d2), .val (.ref po), .val (.int (2 : Int32))] [(.ref d1), (.int (2 : Int32))])) rfl rfl (hb hby own_d_prog_68_method_1_code_45) _ ?_
    rw [len_of S18 M18]
    show Steps p.tables e below (T16.setTop (mkF m 46 #[.val (.ref a), .val (.ref d1), .val (.ref d2), .val (.ref po), .val (.int (2 : Int32))] [(.int (2 : Int32)), (.int (2 : Int32))])) _
    refine XS.icmpYes X16.here hx rfl (pc0 := 46) (pc' := 78) rfl (hb hby own_d_prog_68_method_1_code_46) rfl (flt ((by decide) : ¬ ((2 : Int32) < (2 : Int32)))).2.1 (by decide) (by decide) ?_
    exact k)
  obtain ⟨fs, hr, hrun, hended, hW, hsame⟩ := X16.leave (v := none) (fun _ => rfl)
  refine ⟨_, _, pre19 _ ?_, hrun, hended, _, _, rfl, ?_, ⟨_, rfl⟩, hW, hsame.mono (by decide) (by decide)⟩
  · show Steps p.tables e below (T16.setTop (mkF m 78 #[.val (.ref a), .val (.ref d1), .val (.ref d2), .val (.ref po), .val (.int (2 : Int32))] [])) _
    exact X16.returnOut hx Bd.returns (hb hby own_d_prog_68_method_1_code_78) hr
  · show QI Z a (.ref po) h0 n0 _ T16.heap _
    rw [e16]
    exact ⟨rfl, N16, K16, F16_2⟩
theorem own_ef_rmI3 (m : MethodId) (y0 : Addr) (y1 : Addr) (y2 : Addr) (y3 : Addr) : entryFrame m #[(.ref y0), (.ref y1), (.ref y2), (.ref y3)] 5 = mkF m 0 #[.val (.ref y0), .val (.ref y1), .val (.ref y2), .val (.ref y3), .unset] [] := by first | (simp [entryFrame, mkF, argsToLocals, Value.category]; done) | rfl
set_option maxRecDepth 65536 in
set_option maxHeartbeats 40000000 in
theorem rmI3 (l : Launch) (Z : State) (a0 : Array Value) (hw : ∀ d ∈ tables_1, d.before a0 Z = true) (ws : List Jvm.Cond) (a d1 d2 po : Addr) (k1 k2 : ClassId) (f0 f1 f2 : Int32) (h0 : Heap) (n0 : Nat) (Z0 : n0 ≤ h0.size) (E_a : Exa Z h0 a "com/example/cranfield/cranfield/index/Postings") (g_a : n0 ≤ a) (F_documents : Fld Z h0 a "com/example/cranfield/cranfield/index/Postings" "documents" "[I" .null) (F_frequencies : Fld Z h0 a "com/example/cranfield/cranfield/index/Postings" "frequencies" "[I" .null) (F_positions : Fld Z h0 a "com/example/cranfield/cranfield/index/Postings" "positions" "[I" .null) (F_firstPositions : Fld Z h0 a "com/example/cranfield/cranfield/index/Postings" "firstPositions" "[I" .null) (A1 : Arv Z h0 d1 k1 .int (3 : Int32) [(.int (1 : Int32)), (.int (2 : Int32)), (.int (3 : Int32))] (.int (0 : Int32))) (A2 : Arv Z h0 d2 k2 .int (3 : Int32) [(.int f0), (.int f1), (.int f2)] (.int (0 : Int32))) (ne1 : a ≠ d1) (ne2 : a ≠ d2) :
    MetFree l (⟨"com/example/cranfield/cranfield/index/Postings", "<init>", "([I[I[I)V"⟩ : MethodName) (head1 (Jvm.Cond.code (⟨"com/example/cranfield/cranfield/index/Postings", "<init>", "([I[I[I)V"⟩ : MethodName) prog_68_method_1_code 5 none :: ws) ({ frames := 1, cells := 1, slots := 3, locals := 12 } : Room)) (fun ar_ U => ar_ = #[(.ref a), (.ref d1), (.ref d2), (.ref po)] ∧ Z.Warmed39 U.vm ∧ U.heap = h0) (fun _ _ _ _ _ => True) (fun _ U o U' => ∃ v L, o = .returned v ∧ QI Z a (.ref po) h0 n0 v U'.heap L ∧ FrameEnd U o U' L ({ frames := 1, cells := 1, slots := 3, locals := 12 } : Room).cells ({ frames := 1, cells := 1, slots := 3, locals := 12 } : Room).slots) := by
  refine MetFree.of_bodySF (plainFor_of_name own_pn0) hisR ?_
  intro p e s m args below meth c s₁ Bd hml0 hP hK
  obtain ⟨rfl, hZ, hh⟩ := hP
  have hx := Bd.exec
  have hby := Bd.bytes
  have hml : c.maxLocals = 5 := hml0
  have hown : s.vm.findClass "com/example/cranfield/cranfield/index/Postings" = some m.cls := findClass_of_methodNamed Bd.named
  have hnm := (name_of_methodNamed Bd.named Bd.method).1
  have X0 : Stand p l e ({ frames := 1, cells := 1, slots := 3, locals := 12 } : Room) s m #[(.ref a), (.ref d1), (.ref d2), (.ref po)] below meth c s₁ [] 0 0 := Stand.of_body Bd
  have e0 : s₁.heap = h0 := by rw [← hh, Bd.state]; rfl
  have N0 := Fr.nil n0
  have pre0 : ∀ t, Steps p.tables e below (s₁.setTop (mkF m 0 #[.val (.ref a), .val (.ref d1), .val (.ref d2), .val (.ref po), .unset] [])) t → Steps p.tables e below (s₁.setTop (entryFrame m #[(.ref a), (.ref d1), (.ref d2), (.ref po)] 5)) t := fun t k => castTop (own_ef_rmI3 m a d1 d2 po) k
  obtain ⟨T1, X1, e1, st1⟩ := initO X0 hx hZ hown (hw _ (List.mem_of_getElem? (i := 7) rfl)) (hw _ (List.mem_of_getElem? (i := 8) rfl)) (hw _ (List.mem_of_getElem? (i := 9) rfl)) e0 (g := (mkF m 1 #[.val (.ref a), .val (.ref d1), .val (.ref d2), .val (.ref po), .unset] [(.ref a)])) rfl (by rw [hml]; rfl) rfl (hb hby own_d_prog_68_method_1_code_1) (by decide) (W := 0) (by show 2 * 0 + _ ≤ _; exact Nat.le_of_eq rfl) (by decide)
  obtain ⟨T2, h2, X2, e2, W2, st2⟩ := putF X1 hx hZ hown (host := "") (Or.inl (hw _ (List.mem_of_getElem? (i := 10) rfl))) Via.refl e1 F_documents E_a (Or.inr ⟨(hw _ (List.mem_of_getElem? (i := 11) rfl)), rfl, hnm⟩) (hw _ (List.mem_of_getElem? (i := 2) rfl)) (ty := (.array .int)) (by decide) rfl rfl (g := (mkF m 6 #[.val (.ref a), .val (.ref d1), .val (.ref d2), .val (.ref po), .unset] [(.ref d1), (.ref a)])) rfl rfl (hb hby own_d_prog_68_method_1_code_6)
  have F2_0 := F_documents.same W2
  have F2_1 := F_frequencies.other W2 (Or.inr (slot_ne (Or.inr (hw _ (List.mem_of_getElem? (i := 13) rfl))) (Or.inr (hw _ (List.mem_of_getElem? (i := 11) rfl))) (by decide) (t := (.array .int)) (t' := (.array .int)) (by decide) (by decide)))
  have F2_2 := F_positions.other W2 (Or.inr (slot_ne (Or.inr (hw _ (List.mem_of_getElem? (i := 15) rfl))) (Or.inr (hw _ (List.mem_of_getElem? (i := 11) rfl))) (by decide) (t := (.array .int)) (t' := (.array .int)) (by decide) (by decide)))
  have F2_3 := F_firstPositions.other W2 (Or.inr (slot_ne (Or.inr (hw _ (List.mem_of_getElem? (i := 17) rfl))) (Or.inr (hw _ (List.mem_of_getElem? (i := 11) rfl))) (by decide) (t := (.array .int)) (t' := (.array .int)) (by decide) (by decide)))
  have X2_0 := E_a.wr W2
  have V2_0 := A1.other W2 (Ne.symm ne1)
  have V2_1 := A2.other W2 (Ne.symm ne2)
  have z2 : n0 ≤ h2.size := by rw [W2.size]; exact Z0
  have K2 : Keep h0 h2 [a] := (Keep.refl h0 [a]).wr W2 (Or.inl (by simp))
  have N2 := Fr.snoc X2 N0 g_a
  obtain ⟨T3, h3, X3, e3, W3, st3⟩ := putF X2 hx hZ hown (host := "") (Or.inl (hw _ (List.mem_of_getElem? (i := 12) rfl))) Via.refl e2 F2_1 X2_0 (Or.inr ⟨(hw _ (List.mem_of_getElem? (i := 13) rfl)), rfl, hnm⟩) (hw _ (List.mem_of_getElem? (i := 2) rfl)) (ty := (.array .int)) (by decide) rfl rfl (g := (mkF m 11 #[.val (.ref a), .val (.ref d1), .val (.ref d2), .val (.ref po), .unset] [(.ref d2), (.ref a)])) rfl rfl (hb hby own_d_prog_68_method_1_code_11)
  have F3_0 := F2_0.other W3 (Or.inr (slot_ne (Or.inr (hw _ (List.mem_of_getElem? (i := 11) rfl))) (Or.inr (hw _ (List.mem_of_getElem? (i := 13) rfl))) (by decide) (t := (.array .int)) (t' := (.array .int)) (by decide) (by decide)))
  have F3_1 := F2_1.same W3
  have F3_2 := F2_2.other W3 (Or.inr (slot_ne (Or.inr (hw _ (List.mem_of_getElem? (i := 15) rfl))) (Or.inr (hw _ (List.mem_of_getElem? (i := 13) rfl))) (by decide) (t := (.array .int)) (t' := (.array .int)) (by decide) (by decide)))
  have F3_3 := F2_3.other W3 (Or.inr (slot_ne (Or.inr (hw _ (List.mem_of_getElem? (i := 17) rfl))) (Or.inr (hw _ (List.mem_of_getElem? (i := 13) rfl))) (by decide) (t := (.array .int)) (t' := (.array .int)) (by decide) (by decide)))
  have X3_0 := X2_0.wr W3
  have V3_0 := V2_0.other W3 (Ne.symm ne1)
  have V3_1 := V2_1.other W3 (Ne.symm ne2)
  have z3 : n0 ≤ h3.size := by rw [W3.size]; exact z2
  have K3 : Keep h0 h3 [a] := K2.wr W3 (Or.inl (by simp))
  have N3 := Fr.snoc X3 N2 g_a
  obtain ⟨T4, h4, X4, e4, W4, st4⟩ := putF X3 hx hZ hown (host := "") (Or.inl (hw _ (List.mem_of_getElem? (i := 14) rfl))) Via.refl e3 F3_2 X3_0 (Or.inr ⟨(hw _ (List.mem_of_getElem? (i := 15) rfl)), rfl, hnm⟩) (hw _ (List.mem_of_getElem? (i := 2) rfl)) (ty := (.array .int)) (by decide) rfl rfl (g := (mkF m 16 #[.val (.ref a), .val (.ref d1), .val (.ref d2), .val (.ref po), .unset] [(.ref po), (.ref a)])) rfl rfl (hb hby own_d_prog_68_method_1_code_16)
  have F4_0 := F3_0.other W4 (Or.inr (slot_ne (Or.inr (hw _ (List.mem_of_getElem? (i := 11) rfl))) (Or.inr (hw _ (List.mem_of_getElem? (i := 15) rfl))) (by decide) (t := (.array .int)) (t' := (.array .int)) (by decide) (by decide)))
  have F4_1 := F3_1.other W4 (Or.inr (slot_ne (Or.inr (hw _ (List.mem_of_getElem? (i := 13) rfl))) (Or.inr (hw _ (List.mem_of_getElem? (i := 15) rfl))) (by decide) (t := (.array .int)) (t' := (.array .int)) (by decide) (by decide)))
  have F4_2 := F3_2.same W4
  have F4_3 := F3_3.other W4 (Or.inr (slot_ne (Or.inr (hw _ (List.mem_of_getElem? (i := 17) rfl))) (Or.inr (hw _ (List.mem_of_getElem? (i := 15) rfl))) (by decide) (t := (.array .int)) (t' := (.array .int)) (by decide) (by decide)))
  have X4_0 := X3_0.wr W4
  have V4_0 := V3_0.other W4 (Ne.symm ne1)
  have V4_1 := V3_1.other W4 (Ne.symm ne2)
  have z4 : n0 ≤ h4.size := by rw [W4.size]; exact z3
  have K4 : Keep h0 h4 [a] := K3.wr W4 (Or.inl (by simp))
  have N4 := Fr.snoc X4 N3 g_a
  obtain ⟨cl5, Ar5, q5, S5, M5, H5, G5⟩ := id V4_0
  obtain ⟨T6, h6, k6, X6, e6, E6, A6, st6⟩ := newP X4 hx hZ (hw _ (List.mem_of_getElem? (i := 0) rfl)) e4 (g := (mkF m 34 #[.val (.ref a), .val (.ref d1), .val (.ref d2), .val (.ref po), .unset] [(.int (3 : Int32)), (.ref a)])) rfl (hb hby own_d_prog_68_method_1_code_34) rfl (by decide) (cap := 3) (by decide) (by decide) (by decide) (by decide)
  obtain ⟨b6, g6⟩ : ∃ z, z = h4.size := ⟨_, rfl⟩
  rw [← g6] at A6 st6
  have ne_a_b6 : a ≠ b6 := Nat.ne_of_lt (Nat.lt_of_lt_of_le (X4_0).lt (Nat.le_of_eq g6.symm))
  have ne_d1_b6 : d1 ≠ b6 := Nat.ne_of_lt (Nat.lt_of_lt_of_le (V4_0).lt (Nat.le_of_eq g6.symm))
  have ne_d2_b6 : d2 ≠ b6 := Nat.ne_of_lt (Nat.lt_of_lt_of_le (V4_1).lt (Nat.le_of_eq g6.symm))
  have g_b6 : n0 ≤ b6 := Nat.le_trans z4 (Nat.le_of_eq g6.symm)
  have sz_b6 : h0.size ≤ b6 := Nat.le_trans K4.1 (Nat.le_of_eq g6.symm)
  have F6_0 := F4_0.ext E6
  have F6_1 := F4_1.ext E6
  have F6_2 := F4_2.ext E6
  have F6_3 := F4_3.ext E6
  have X6_0 := X4_0.ext E6
  have V6_0 := V4_0.ext E6
  have V6_1 := V4_1.ext E6
  have z6 : n0 ≤ h6.size := Nat.le_trans z4 E6.1
  have K6 : Keep h0 h6 [a] := K4.ext E6
  have V_b6 : Arv Z h6 b6 k6 .int (3 : Int32) [(.int (0 : Int32)), (.int (0 : Int32)), (.int (0 : Int32))] (.int (0 : Int32)) := (Arv.new A6 (by decide)).pad (pad_rep [] (.int (0 : Int32)) 3)
  obtain ⟨T7, h7, X7, e7, W7, st7⟩ := putF X6 hx hZ hown (host := "") (Or.inl (hw _ (List.mem_of_getElem? (i := 16) rfl))) Via.refl e6 F6_3 X6_0 (Or.inr ⟨(hw _ (List.mem_of_getElem? (i := 17) rfl)), rfl, hnm⟩) (hw _ (List.mem_of_getElem? (i := 2) rfl)) (ty := (.array .int)) (by decide) rfl rfl (g := (mkF m 36 #[.val (.ref a), .val (.ref d1), .val (.ref d2), .val (.ref po), .unset] [(.ref b6), (.ref a)])) rfl rfl (hb hby own_d_prog_68_method_1_code_36)
  have F7_0 := F6_0.other W7 (Or.inr (slot_ne (Or.inr (hw _ (List.mem_of_getElem? (i := 11) rfl))) (Or.inr (hw _ (List.mem_of_getElem? (i := 17) rfl))) (by decide) (t := (.array .int)) (t' := (.array .int)) (by decide) (by decide)))
  have F7_1 := F6_1.other W7 (Or.inr (slot_ne (Or.inr (hw _ (List.mem_of_getElem? (i := 13) rfl))) (Or.inr (hw _ (List.mem_of_getElem? (i := 17) rfl))) (by decide) (t := (.array .int)) (t' := (.array .int)) (by decide) (by decide)))
  have F7_2 := F6_2.other W7 (Or.inr (slot_ne (Or.inr (hw _ (List.mem_of_getElem? (i := 15) rfl))) (Or.inr (hw _ (List.mem_of_getElem? (i := 17) rfl))) (by decide) (t := (.array .int)) (t' := (.array .int)) (by decide) (by decide)))
  have F7_3 := F6_3.same W7
  have X7_0 := X6_0.wr W7
  have V7_0 := V6_0.other W7 (Ne.symm ne1)
  have V7_1 := V6_1.other W7 (Ne.symm ne2)
  have V7_2 := V_b6.other W7 (Ne.symm ne_a_b6)
  have z7 : n0 ≤ h7.size := by rw [W7.size]; exact z6
  have K7 : Keep h0 h7 [a] := K6.wr W7 (Or.inl (by simp))
  have N7 := Fr.snoc X7 N4 g_a
  obtain ⟨cl8, Ar8, q8, S8, M8, H8, G8⟩ := id V7_0
  obtain ⟨T9, X9, e9, st9⟩ := getF X7 hx hZ hown (host := "") (Or.inl (hw _ (List.mem_of_getElem? (i := 16) rfl))) Via.refl e7 F7_3 (g := (mkF m 50 #[.val (.ref a), .val (.ref d1), .val (.ref d2), .val (.ref po), .val (.int (1 : Int32))] [(.ref a)])) rfl rfl (hb hby own_d_prog_68_method_1_code_50)
  obtain ⟨T10, X10, e10, st10⟩ := getF X9 hx hZ hown (host := "") (Or.inl (hw _ (List.mem_of_getElem? (i := 16) rfl))) Via.refl e9 F7_3 (g := (mkF m 56 #[.val (.ref a), .val (.ref d1), .val (.ref d2), .val (.ref po), .val (.int (1 : Int32))] [(.ref a), (.int (1 : Int32)), (.ref b6)])) rfl rfl (hb hby own_d_prog_68_method_1_code_56)
  have fold11 : ((1 : Int32) - (1 : Int32)) = (0 : Int32) := by decide +kernel
  obtain ⟨cl12, Ar12, q12, S12, M12, H12, G12⟩ := id V7_2
  have hin12 : ¬ ((0 : Int32) < 0 ∨ cl12.slots.size ≤ ((0 : Int32)).toNatClampNeg) := inb_of S12 ⟨by decide, by decide⟩
  have hat12 : cl12.slots[((0 : Int32)).toNatClampNeg]? = some (.int (0 : Int32)) := Has.at H12 hin12 rfl
  have fold13 : ((1 : Int32) - (1 : Int32)) = (0 : Int32) := by decide +kernel
  obtain ⟨cl14, Ar14, q14, S14, M14, H14, G14⟩ := id V7_1
  have hin14 : ¬ ((0 : Int32) < 0 ∨ cl14.slots.size ≤ ((0 : Int32)).toNatClampNeg) := inb_of S14 ⟨by decide, by decide⟩
  have hat14 : cl14.slots[((0 : Int32)).toNatClampNeg]? = some (.int f0) := Has.at H14 hin14 rfl
  obtain ⟨cl15, Ar15, q15, S15, M15, H15, G15⟩ := id V7_2
  have hin15 : ¬ ((1 : Int32) < 0 ∨ cl15.slots.size ≤ ((1 : Int32)).toNatClampNeg) := inb_of S15 ⟨by decide, by decide⟩
  obtain ⟨T16, h16, X16, e16, W16, st16⟩ := stI X10 hx hZ e10 Ar15 (j := (1 : Int32)) hin15 (g := (mkF m 71 #[.val (.ref a), .val (.ref d1), .val (.ref d2), .val (.ref po), .val (.int (1 : Int32))] [(.int ((0 : Int32) + f0)), (.int (1 : Int32)), (.ref b6)])) rfl rfl (hb hby own_d_prog_68_method_1_code_71)
  have V_b6_16 : Arv Z h16 b6 k6 .int (3 : Int32) [(.int (0 : Int32)), (.int ((0 : Int32) + f0)), (.int (0 : Int32))] (.int (0 : Int32)) := Arv.set Ar15 q15 S15 M15 H15 G15 rfl W16 1 rfl (Nat.le_of_ble_eq_true rfl)
  have F16_0 := F7_0.other W16 (Or.inl ne_a_b6)
  have F16_1 := F7_1.other W16 (Or.inl ne_a_b6)
  have F16_2 := F7_2.other W16 (Or.inl ne_a_b6)
  have F16_3 := F7_3.other W16 (Or.inl ne_a_b6)
  have X16_0 := X7_0.wr W16
  have V16_0 := V7_0.other W16 ne_d1_b6
  have V16_1 := V7_1.other W16 ne_d2_b6
  have z16 : n0 ≤ h16.size := by rw [W16.size]; exact z7
  have K16 : Keep h0 h16 [a] := K7.wr W16 (Or.inr sz_b6)
  have N16 := Fr.snoc X16 N7 g_b6
  have fold17 : ((1 : Int32) + (1 : Int32)) = (2 : Int32) := by decide +kernel
  obtain ⟨cl18, Ar18, q18, S18, M18, H18, G18⟩ := id V16_0
  obtain ⟨T19, X19, e19, st19⟩ := getF X16 hx hZ hown (host := "") (Or.inl (hw _ (List.mem_of_getElem? (i := 16) rfl))) Via.refl e16 F16_3 (g := (mkF m 50 #[.val (.ref a), .val (.ref d1), .val (.ref d2), .val (.ref po), .val (.int (2 : Int32))] [(.ref a)])) rfl rfl (hb hby own_d_prog_68_method_1_code_50)
  obtain ⟨T20, X20, e20, st20⟩ := getF X19 hx hZ hown (host := "") (Or.inl (hw _ (List.mem_of_getElem? (i := 16) rfl))) Via.refl e19 F16_3 (g := (mkF m 56 #[.val (.ref a), .val (.ref d1), .val (.ref d2), .val (.ref po), .val (.int (2 : Int32))] [(.ref a), (.int (2 : Int32)), (.ref b6)])) rfl rfl (hb hby own_d_prog_68_method_1_code_56)
  have fold21 : ((2 : Int32) - (1 : Int32)) = (1 : Int32) := by decide +kernel
  obtain ⟨cl22, Ar22, q22, S22, M22, H22, G22⟩ := id V_b6_16
  have hin22 : ¬ ((1 : Int32) < 0 ∨ cl22.slots.size ≤ ((1 : Int32)).toNatClampNeg) := inb_of S22 ⟨by decide, by decide⟩
  have hat22 : cl22.slots[((1 : Int32)).toNatClampNeg]? = some (.int ((0 : Int32) + f0)) := Has.at H22 hin22 rfl
  have fold23 : ((2 : Int32) - (1 : Int32)) = (1 : Int32) := by decide +kernel
  obtain ⟨cl24, Ar24, q24, S24, M24, H24, G24⟩ := id V16_1
  have hin24 : ¬ ((1 : Int32) < 0 ∨ cl24.slots.size ≤ ((1 : Int32)).toNatClampNeg) := inb_of S24 ⟨by decide, by decide⟩
  have hat24 : cl24.slots[((1 : Int32)).toNatClampNeg]? = some (.int f1) := Has.at H24 hin24 rfl
  obtain ⟨cl25, Ar25, q25, S25, M25, H25, G25⟩ := id V_b6_16
  have hin25 : ¬ ((2 : Int32) < 0 ∨ cl25.slots.size ≤ ((2 : Int32)).toNatClampNeg) := inb_of S25 ⟨by decide, by decide⟩
  obtain ⟨T26, h26, X26, e26, W26, st26⟩ := stI X20 hx hZ e20 Ar25 (j := (2 : Int32)) hin25 (g := (mkF m 71 #[.val (.ref a), .val (.ref d1), .val (.ref d2), .val (.ref po), .val (.int (2 : Int32))] [(.int (((0 : Int32) + f0) + f1)), (.int (2 : Int32)), (.ref b6)])) rfl rfl (hb hby own_d_prog_68_method_1_code_71)
  have V_b6_26 : Arv Z h26 b6 k6 .int (3 : Int32) [(.int (0 : Int32)), (.int ((0 : Int32) + f0)), (.int (((0 : Int32) + f0) + f1))] (.int (0 : Int32)) := Arv.set Ar25 q25 S25 M25 H25 G25 rfl W26 2 rfl (Nat.le_of_ble_eq_true rfl)
  have F26_0 := F16_0.other W26 (Or.inl ne_a_b6)
  have F26_1 := F16_1.other W26 (Or.inl ne_a_b6)
  have F26_2 := F16_2.other W26 (Or.inl ne_a_b6)
  have F26_3 := F16_3.other W26 (Or.inl ne_a_b6)
  have X26_0 := X16_0.wr W26
  have V26_0 := V16_0.other W26 ne_d1_b6
  have V26_1 := V16_1.other W26 ne_d2_b6
  have z26 : n0 ≤ h26.size := by rw [W26.size]; exact z16
  have K26 : Keep h0 h26 [a] := K16.wr W26 (Or.inr sz_b6)
  have N26 := Fr.snoc X26 N16 g_b6
  have fold27 : ((2 : Int32) + (1 : Int32)) = (3 : Int32) := by decide +kernel
  obtain ⟨cl28, Ar28, q28, S28, M28, H28, G28⟩ := id V26_0
  have pre29 : ∀ t, Steps p.tables e below (T26.setTop (mkF m 78 #[.val (.ref a), .val (.ref d1), .val (.ref d2), .val (.ref po), .val (.int (3 : Int32))] [])) t → Steps p.tables e below (s₁.setTop (entryFrame m #[(.ref a), (.ref d1), (.ref d2), (.ref po)] 5)) t := fun t k => pre0 t (by
    show Steps p.tables e below (s₁.setTop (mkF m 0 #[.val (.ref a), .val (.ref d1), .val (.ref d2), .val (.ref po), .unset] [])) _
    refine XS.aloadN X0.here hx rfl (hb hby own_d_prog_68_method_1_code_0) rfl rfl ?_
    show Steps p.tables e below (s₁.setTop (mkF m 1 #[.val (.ref a), .val (.ref d1), .val (.ref d2), .val (.ref po), .unset] [(.ref a)])) _
    refine st1 _ ?_
    show Steps p.tables e below (T1.setTop (mkF m 4 #[.val (.ref a), .val (.ref d1), .val (.ref d2), .val (.ref po), .unset] [])) _
    refine XS.aloadN X1.here hx rfl (hb hby own_d_prog_68_method_1_code_4) rfl rfl ?_
    show Steps p.tables e below (T1.setTop (mkF m 5 #[.val (.ref a), .val (.ref d1), .val (.ref d2), .val (.ref po), .unset] [(.ref a)])) _
    refine XS.aloadN X1.here hx rfl (hb hby own_d_prog_68_method_1_code_5) rfl rfl ?_
    show Steps p.tables e below (T1.setTop (mkF m 6 #[.val (.ref a), .val (.ref d1), .val (.ref d2), .val (.ref po), .unset] [(.ref d1), (.ref a)])) _
    refine st2 _ ?_
    show Steps p.tables e below (T2.setTop (mkF m 9 #[.val (.ref a), .val (.ref d1), .val (.ref d2), .val (.ref po), .unset] [])) _
    refine XS.aloadN X2.here hx rfl (hb hby own_d_prog_68_method_1_code_9) rfl rfl ?_
    show Steps p.tables e below (T2.setTop (mkF m 10 #[.val (.ref a), .val (.ref d1), .val (.ref d2), .val (.ref po), .unset] [(.ref a)])) _
    refine XS.aloadN X2.here hx rfl (hb hby own_d_prog_68_method_1_code_10) rfl rfl ?_
    show Steps p.tables e below (T2.setTop (mkF m 11 #[.val (.ref a), .val (.ref d1), .val (.ref d2), .val (.ref po), .unset] [(.ref d2), (.ref a)])) _
    refine st3 _ ?_
    show Steps p.tables e below (T3.setTop (mkF m 14 #[.val (.ref a), .val (.ref d1), .val (.ref d2), .val (.ref po), .unset] [])) _
    refine XS.aloadN X3.here hx rfl (hb hby own_d_prog_68_method_1_code_14) rfl rfl ?_
    show Steps p.tables e below (T3.setTop (mkF m 15 #[.val (.ref a), .val (.ref d1), .val (.ref d2), .val (.ref po), .unset] [(.ref a)])) _
    refine XS.aloadN X3.here hx rfl (hb hby own_d_prog_68_method_1_code_15) rfl rfl ?_
    show Steps p.tables e below (T3.setTop (mkF m 16 #[.val (.ref a), .val (.ref d1), .val (.ref d2), .val (.ref po), .unset] [(.ref po), (.ref a)])) _
    refine st4 _ ?_
    show Steps p.tables e below (T4.setTop (mkF m 19 #[.val (.ref a), .val (.ref d1), .val (.ref d2), .val (.ref po), .unset] [])) _
    refine XS.aloadN X4.here hx rfl (hb hby own_d_prog_68_method_1_code_19) rfl rfl ?_
    show Steps p.tables e below (T4.setTop (mkF m 20 #[.val (.ref a), .val (.ref d1), .val (.ref d2), .val (.ref po), .unset] [(.ref po)])) _
    refine XS.ifnonnullYes X4.here hx rfl (pc0 := 20) (pc' := 31) rfl (hb hby own_d_prog_68_method_1_code_20) rfl (by decide) (by decide) ?_
    show Steps p.tables e below (T4.setTop (mkF m 31 #[.val (.ref a), .val (.ref d1), .val (.ref d2), .val (.ref po), .unset] [])) _
    refine XS.aloadN X4.here hx rfl (hb hby own_d_prog_68_method_1_code_31) rfl rfl ?_
    show Steps p.tables e below (T4.setTop (mkF m 32 #[.val (.ref a), .val (.ref d1), .val (.ref d2), .val (.ref po), .unset] [(.ref a)])) _
    refine XS.aloadN X4.here hx rfl (hb hby own_d_prog_68_method_1_code_32) rfl rfl ?_
    show Steps p.tables e below (T4.setTop (mkF m 33 #[.val (.ref a), .val (.ref d1), .val (.ref d2), .val (.ref po), .unset] [(.ref d1), (.ref a)])) _
    refine X4.arraylength hx (by rw [e4]; exact Ar5.1) (State.isArrayOf_alike hZ.alike Ar5.2.1) (g := (mkF m 33 #[.val (.ref a), .val (.ref d1), .val (.ref d2), .val (.ref po), .unset] [(.ref d1), (.ref a)])) rfl rfl (hb hby own_d_prog_68_method_1_code_33) _ ?_
    rw [len_of S5 M5]
    show Steps p.tables e below (T4.setTop (mkF m 34 #[.val (.ref a), .val (.ref d1), .val (.ref d2), .val (.ref po), .unset] [(.int (3 : Int32)), (.ref a)])) _
    refine st6 _ ?_
    show Steps p.tables e below (T6.setTop (mkF m 36 #[.val (.ref a), .val (.ref d1), .val (.ref d2), .val (.ref po), .unset] [(.ref b6), (.ref a)])) _
    refine st7 _ ?_
    show Steps p.tables e below (T7.setTop (mkF m 39 #[.val (.ref a), .val (.ref d1), .val (.ref d2), .val (.ref po), .unset] [])) _
    refine XS.iconst X7.here hx rfl (hb hby own_d_prog_68_method_1_code_39) ?_
    show Steps p.tables e below (T7.setTop (mkF m 40 #[.val (.ref a), .val (.ref d1), .val (.ref d2), .val (.ref po), .unset] [(.int (1 : Int32))])) _
    refine XS.istore X7.here hx rfl (hb hby own_d_prog_68_method_1_code_40) rfl (l' := #[.val (.ref a), .val (.ref d1), .val (.ref d2), .val (.ref po), .val (.int (1 : Int32))]) rfl ?_
    show Steps p.tables e below (T7.setTop (mkF m 42 #[.val (.ref a), .val (.ref d1), .val (.ref d2), .val (.ref po), .val (.int (1 : Int32))] [])) _
    refine XS.iload X7.here hx rfl (hb hby own_d_prog_68_method_1_code_42) rfl ?_
    show Steps p.tables e below (T7.setTop (mkF m 44 #[.val (.ref a), .val (.ref d1), .val (.ref d2), .val (.ref po), .val (.int (1 : Int32))] [(.int (1 : Int32))])) _
    refine XS.aloadN X7.here hx rfl (hb hby own_d_prog_68_method_1_code_44) rfl rfl ?_
    show Steps p.tables e below (T7.setTop (mkF m 45 #[.val (.ref a), .val (.ref d1), .val (.ref d2), .val (.ref po), .val (.int (1 : Int32))] [(.ref d1), (.int (1 : Int32))])) _
    refine X7.arraylength hx (by rw [e7]; exact Ar8.1) (State.isArrayOf_alike hZ.alike Ar8.2.1) (g := (mkF m 45 #[.val (.ref a), .val (.ref d1), .val (.ref d2), .val (.ref po), .val (.int (1 : Int32))] [(.ref d1), (.int (1 : Int32))])) rfl rfl (hb hby own_d_prog_68_method_1_code_45) _ ?_
    rw [len_of S8 M8]
    show Steps p.tables e below (T7.setTop (mkF m 46 #[.val (.ref a), .val (.ref d1), .val (.ref d2), .val (.ref po), .val (.int (1 : Int32))] [(.int (3 : Int32)), (.int (1 : Int32))])) _
    refine XS.icmpNo X7.here hx rfl (hb hby own_d_prog_68_method_1_code_46) rfl (tlt ((by decide) : (1 : Int32) < (3 : Int32))).2.1 ?_
    show Steps p.tables e below (T7.setTop (mkF m 49 #[.val (.ref a), .val (.ref d1), .val (.ref d2), .val (.ref po), .val (.int (1 : Int32))] [])) _
    refine XS.aloadN X7.here hx rfl (hb hby own_d_prog_68_method_1_code_49) rfl rfl ?_
    show Steps p.tables e below (T7.setTop (mkF m 50 #[.val (.ref a), .val (.ref d1), .val (.ref d2), .val (.ref po), .val (.int (1 : Int32))] [(.ref a)])) _
    refine st9 _ ?_
    show Steps p.tables e below (T9.setTop (mkF m 53 #[.val (.ref a), .val (.ref d1), .val (.ref d2), .val (.ref po), .val (.int (1 : Int32))] [(.ref b6)])) _
    refine XS.iload X9.here hx rfl (hb hby own_d_prog_68_method_1_code_53) rfl ?_
    show Steps p.tables e below (T9.setTop (mkF m 55 #[.val (.ref a), .val (.ref d1), .val (.ref d2), .val (.ref po), .val (.int (1 : Int32))] [(.int (1 : Int32)), (.ref b6)])) _
    refine XS.aloadN X9.here hx rfl (hb hby own_d_prog_68_method_1_code_55) rfl rfl ?_
    show Steps p.tables e below (T9.setTop (mkF m 56 #[.val (.ref a), .val (.ref d1), .val (.ref d2), .val (.ref po), .val (.int (1 : Int32))] [(.ref a), (.int (1 : Int32)), (.ref b6)])) _
    refine st10 _ ?_
    show Steps p.tables e below (T10.setTop (mkF m 59 #[.val (.ref a), .val (.ref d1), .val (.ref d2), .val (.ref po), .val (.int (1 : Int32))] [(.ref b6), (.int (1 : Int32)), (.ref b6)])) _
    refine XS.iload X10.here hx rfl (hb hby own_d_prog_68_method_1_code_59) rfl ?_
    show Steps p.tables e below (T10.setTop (mkF m 61 #[.val (.ref a), .val (.ref d1), .val (.ref d2), .val (.ref po), .val (.int (1 : Int32))] [(.int (1 : Int32)), (.ref b6), (.int (1 : Int32)), (.ref b6)])) _
    refine XS.iconst X10.here hx rfl (hb hby own_d_prog_68_method_1_code_61) ?_
    show Steps p.tables e below (T10.setTop (mkF m 62 #[.val (.ref a), .val (.ref d1), .val (.ref d2), .val (.ref po), .val (.int (1 : Int32))] [(.int (1 : Int32)), (.int (1 : Int32)), (.ref b6), (.int (1 : Int32)), (.ref b6)])) _
    refine XS.isub X10.here hx rfl (hb hby own_d_prog_68_method_1_code_62) rfl ?_
    show Steps p.tables e below (T10.setTop (mkF m 63 #[.val (.ref a), .val (.ref d1), .val (.ref d2), .val (.ref po), .val (.int (1 : Int32))] [(.int ((1 : Int32) - (1 : Int32))), (.ref b6), (.int (1 : Int32)), (.ref b6)])) _
    rw [fold11]
    show Steps p.tables e below (T10.setTop (mkF m 63 #[.val (.ref a), .val (.ref d1), .val (.ref d2), .val (.ref po), .val (.int (1 : Int32))] [(.int (0 : Int32)), (.ref b6), (.int (1 : Int32)), (.ref b6)])) _
    refine X10.iaload hx (j := (0 : Int32)) (v := (.int (0 : Int32))) (by rw [e10]; exact Ar12.1) (State.isArrayOf_alike hZ.alike Ar12.2.1) Ar12.2.2 hin12 hat12 (g := (mkF m 63 #[.val (.ref a), .val (.ref d1), .val (.ref d2), .val (.ref po), .val (.int (1 : Int32))] [(.int (0 : Int32)), (.ref b6), (.int (1 : Int32)), (.ref b6)])) rfl rfl (hb hby own_d_prog_68_method_1_code_63) _ ?_
    show Steps p.tables e below (T10.setTop (mkF m 64 #[.val (.ref a), .val (.ref d1), .val (.ref d2), .val (.ref po), .val (.int (1 : Int32))] [(.int (0 : Int32)), (.int (1 : Int32)), (.ref b6)])) _
    refine XS.aloadN X10.here hx rfl (hb hby own_d_prog_68_method_1_code_64) rfl rfl ?_
    show Steps p.tables e below (T10.setTop (mkF m 65 #[.val (.ref a), .val (.ref d1), .val (.ref d2), .val (.ref po), .val (.int (1 : Int32))] [(.ref d2), (.int (0 : Int32)), (.int (1 : Int32)), (.ref b6)])) _
    refine XS.iload X10.here hx rfl (hb hby own_d_prog_68_method_1_code_65) rfl ?_
    show Steps p.tables e below (T10.setTop (mkF m 67 #[.val (.ref a), .val (.ref d1), .val (.ref d2), .val (.ref po), .val (.int (1 : Int32))] [(.int (1 : Int32)), (.ref d2), (.int (0 : Int32)), (.int (1 : Int32)), (.ref b6)])) _
    refine XS.iconst X10.here hx rfl (hb hby own_d_prog_68_method_1_code_67) ?_
    show Steps p.tables e below (T10.setTop (mkF m 68 #[.val (.ref a), .val (.ref d1), .val (.ref d2), .val (.ref po), .val (.int (1 : Int32))] [(.int (1 : Int32)), (.int (1 : Int32)), (.ref d2), (.int (0 : Int32)), (.int (1 : Int32)), (.ref b6)])) _
    refine XS.isub X10.here hx rfl (hb hby own_d_prog_68_method_1_code_68) rfl ?_
    show Steps p.tables e below (T10.setTop (mkF m 69 #[.val (.ref a), .val (.ref d1), .val (.ref d2), .val (.ref po), .val (.int (1 : Int32))] [(.int ((1 : Int32) - (1 : Int32))), (.ref d2), (.int (0 : Int32)), (.int (1 : Int32)), (.ref b6)])) _
    rw [fold13]
    show Steps p.tables e below (T10.setTop (mkF m 69 #[.val (.ref a), .val (.ref d1), .val (.ref d2), .val (.ref po), .val (.int (1 : Int32))] [(.int (0 : Int32)), (.ref d2), (.int (0 : Int32)), (.int (1 : Int32)), (.ref b6)])) _
    refine X10.iaload hx (j := (0 : Int32)) (v := (.int f0)) (by rw [e10]; exact Ar14.1) (State.isArrayOf_alike hZ.alike Ar14.2.1) Ar14.2.2 hin14 hat14 (g := (mkF m 69 #[.val (.ref a), .val (.ref d1), .val (.ref d2), .val (.ref po), .val (.int (1 : Int32))] [(.int (0 : Int32)), (.ref d2), (.int (0 : Int32)), (.int (1 : Int32)), (.ref b6)])) rfl rfl (hb hby own_d_prog_68_method_1_code_69) _ ?_
    show Steps p.tables e below (T10.setTop (mkF m 70 #[.val (.ref a), .val (.ref d1), .val (.ref d2), .val (.ref po), .val (.int (1 : Int32))] [(.int f0), (.int (0 : Int32)), (.int (1 : Int32)), (.ref b6)])) _
    refine XS.iadd X10.here hx rfl (hb hby own_d_prog_68_method_1_code_70) rfl ?_
    show Steps p.tables e below (T10.setTop (mkF m 71 #[.val (.ref a), .val (.ref d1), .val (.ref d2), .val (.ref po), .val (.int (1 : Int32))] [(.int ((0 : Int32) + f0)), (.int (1 : Int32)), (.ref b6)])) _
    refine st16 _ ?_
    show Steps p.tables e below (T16.setTop (mkF m 72 #[.val (.ref a), .val (.ref d1), .val (.ref d2), .val (.ref po), .val (.int (1 : Int32))] [])) _
    refine XS.iinc X16.here hx rfl (hb hby own_d_prog_68_method_1_code_72) rfl (l' := #[.val (.ref a), .val (.ref d1), .val (.ref d2), .val (.ref po), .val (.int ((1 : Int32) + (1 : Int32)))]) rfl ?_
    show Steps p.tables e below (T16.setTop (mkF m 75 #[.val (.ref a), .val (.ref d1), .val (.ref d2), .val (.ref po), .val (.int ((1 : Int32) + (1 : Int32)))] [])) _
    rw [fold17]
    show Steps p.tables e below (T16.setTop (mkF m 75 #[.val (.ref a), .val (.ref d1), .val (.ref d2), .val (.ref po), .val (.int (2 : Int32))] [])) _
    refine XS.goto X16.here hx rfl (pc0 := 75) (pc' := 42) rfl (hb hby own_d_prog_68_method_1_code_75) (by decide) (by decide) ?_
    show Steps p.tables e below (T16.setTop (mkF m 42 #[.val (.ref a), .val (.ref d1), .val (.ref d2), .val (.ref po), .val (.int (2 : Int32))] [])) _
    refine XS.iload X16.here hx rfl (hb hby own_d_prog_68_method_1_code_42) rfl ?_
    show Steps p.tables e below (T16.setTop (mkF m 44 #[.val (.ref a), .val (.ref d1), .val (.ref d2), .val (.ref po), .val (.int (2 : Int32))] [(.int (2 : Int32))])) _
    refine XS.aloadN X16.here hx rfl (hb hby own_d_prog_68_method_1_code_44) rfl rfl ?_
    show Steps p.tables e below (T16.setTop (mkF m 45 #[.val (.ref a), .val (.ref d1), .val (.ref d2), .val (.ref po), .val (.int (2 : Int32))] [(.ref d1), (.int (2 : Int32))])) _
    refine X16.arraylength hx (by rw [e16]; exact Ar18.1) (State.isArrayOf_alike hZ.alike Ar18.2.1) (g := (mkF m 45 #[.val (.ref a), .val (.ref d1), .val (.ref d2), .val (.ref po), .val (.int (2 : Int32))] [(.ref d1), (.int (2 : Int32))])) rfl rfl (hb hby own_d_prog_68_method_1_code_45) _ ?_
    rw [len_of S18 M18]
    show Steps p.tables e below (T16.setTop (mkF m 46 #[.val (.ref a), .val (.ref d1), .val (.ref d2), .val (.ref po), .val (.int (2 : Int32))] [(.int (3 : Int32)), (.int (2 : Int32))])) _
    refine XS.icmpNo X16.here hx rfl (hb hby own_d_prog_68_method_1_code_46) rfl (tlt ((by decide) : (2 : Int32) < (3 : Int32))).2.1 ?_
    show Steps p.tables e below (T16.setTop (mkF m 49 #[.val (.ref a), .val (.ref d1), .val (.ref d2), .val (.ref po), .val (.int (2 : Int32))] [])) _
    refine XS.aloadN X16.here hx rfl (hb hby own_d_prog_68_method_1_code_49) rfl rfl ?_
    show Steps p.tables e below (T16.setTop (mkF m 50 #[.val (.ref a), .val (.ref d1), .val (.ref d2), .val (.ref po), .val (.int (2 : Int32))] [(.ref a)])) _
    refine st19 _ ?_
    show Steps p.tables e below (T19.setTop (mkF m 53 #[.val (.ref a), .val (.ref d1), .val (.ref d2), .val (.ref po), .val (.int (2 : Int32))] [(.ref b6)])) _
    refine XS.iload X19.here hx rfl (hb hby own_d_prog_68_method_1_code_53) rfl ?_
    show Steps p.tables e below (T19.setTop (mkF m 55 #[.val (.ref a), .val (.ref d1), .val (.ref d2), .val (.ref po), .val (.int (2 : Int32))] [(.int (2 : Int32)), (.ref b6)])) _
    refine XS.aloadN X19.here hx rfl (hb hby own_d_prog_68_method_1_code_55) rfl rfl ?_
    show Steps p.tables e below (T19.setTop (mkF m 56 #[.val (.ref a), .val (.ref d1), .val (.ref d2), .val (.ref po), .val (.int (2 : Int32))] [(.ref a), (.int (2 : Int32)), (.ref b6)])) _
    refine st20 _ ?_
    show Steps p.tables e below (T20.setTop (mkF m 59 #[.val (.ref a), .val (.ref d1), .val (.ref d2), .val (.ref po), .val (.int (2 : Int32))] [(.ref b6), (.int (2 : Int32)), (.ref b6)])) _
    refine XS.iload X20.here hx rfl (hb hby own_d_prog_68_method_1_code_59) rfl ?_
    show Steps p.tables e below (T20.setTop (mkF m 61 #[.val (.ref a), .val (.ref d1), .val (.ref d2), .val (.ref po), .val (.int (2 : Int32))] [(.int (2 : Int32)), (.ref b6), (.int (2 : Int32)), (.ref b6)])) _
    refine XS.iconst X20.here hx rfl (hb hby own_d_prog_68_method_1_code_61) ?_
    show Steps p.tables e below (T20.setTop (mkF m 62 #[.val (.ref a), .val (.ref d1), .val (.ref d2), .val (.ref po), .val (.int (2 : Int32))] [(.int (1 : Int32)), (.int (2 : Int32)), (.ref b6), (.int (2 : Int32)), (.ref b6)])) _
    refine XS.isub X20.here hx rfl (hb hby own_d_prog_68_method_1_code_62) rfl ?_
    show Steps p.tables e below (T20.setTop (mkF m 63 #[.val (.ref a), .val (.ref d1), .val (.ref d2), .val (.ref po), .val (.int (2 : Int32))] [(.int ((2 : Int32) - (1 : Int32))), (.ref b6), (.int (2 : Int32)), (.ref b6)])) _
    rw [fold21]
    show Steps p.tables e below (T20.setTop (mkF m 63 #[.val (.ref a), .val (.ref d1), .val (.ref d2), .val (.ref po), .val (.int (2 : Int32))] [(.int (1 : Int32)), (.ref b6), (.int (2 : Int32)), (.ref b6)])) _
    refine X20.iaload hx (j := (1 : Int32)) (v := (.int ((0 : Int32) + f0))) (by rw [e20]; exact Ar22.1) (State.isArrayOf_alike hZ.alike Ar22.2.1) Ar22.2.2 hin22 hat22 (g := (mkF m 63 #[.val (.ref a), .val (.ref d1), .val (.ref d2), .val (.ref po), .val (.int (2 : Int32))] [(.int (1 : Int32)), (.ref b6), (.int (2 : Int32)), (.ref b6)])) rfl rfl (hb hby own_d_prog_68_method_1_code_63) _ ?_
    show Steps p.tables e below (T20.setTop (mkF m 64 #[.val (.ref a), .val (.ref d1), .val (.ref d2), .val (.ref po), .val (.int (2 : Int32))] [(.int ((0 : Int32) + f0)), (.int (2 : Int32)), (.ref b6)])) _
    refine XS.aloadN X20.here hx rfl (hb hby own_d_prog_68_method_1_code_64) rfl rfl ?_
    show Steps p.tables e below (T20.setTop (mkF m 65 #[.val (.ref a), .val (.ref d1), .val (.ref d2), .val (.ref po), .val (.int (2 : Int32))] [(.ref d2), (.int ((0 : Int32) + f0)), (.int (2 : Int32)), (.ref b6)])) _
    refine XS.iload X20.here hx rfl (hb hby own_d_prog_68_method_1_code_65) rfl ?_
    show Steps p.tables e below (T20.setTop (mkF m 67 #[.val (.ref a), .val (.ref d1), .val (.ref d2), .val (.ref po), .val (.int (2 : Int32))] [(.int (2 : Int32)), (.ref d2), (.int ((0 : Int32) + f0)), (.int (2 : Int32)), (.ref b6)])) _
    refine XS.iconst X20.here hx rfl (hb hby own_d_prog_68_method_1_code_67) ?_
    show Steps p.tables e below (T20.setTop (mkF m 68 #[.val (.ref a), .val (.ref d1), .val (.ref d2), .val (.ref po), .val (.int (2 : Int32))] [(.int (1 : Int32)), (.int (2 : Int32)), (.ref d2), (.int ((0 : Int32) + f0)), (.int (2 : Int32)), (.ref b6)])) _
    refine XS.isub X20.here hx rfl (hb hby own_d_prog_68_method_1_code_68) rfl ?_
    show Steps p.tables e below (T20.setTop (mkF m 69 #[.val (.ref a), .val (.ref d1), .val (.ref d2), .val (.ref po), .val (.int (2 : Int32))] [(.int ((2 : Int32) - (1 : Int32))), (.ref d2), (.int ((0 : Int32) + f0)), (.int (2 : Int32)), (.ref b6)])) _
    rw [fold23]
    show Steps p.tables e below (T20.setTop (mkF m 69 #[.val (.ref a), .val (.ref d1), .val (.ref d2), .val (.ref po), .val (.int (2 : Int32))] [(.int (1 : Int32)), (.ref d2), (.int ((0 : Int32) + f0)), (.int (2 : Int32)), (.ref b6)])) _
    refine X20.iaload hx (j := (1 : Int32)) (v := (.int f1)) (by rw [e20]; exact Ar24.1) (State.isArrayOf_alike hZ.alike Ar24.2.1) Ar24.2.2 hin24 hat24 (g := (mkF m 69 #[.val (.ref a), .val (.ref d1), .val (.ref d2), .val (.ref po), .val (.int (2 : Int32))] [(.int (1 : Int32)), (.ref d2), (.int ((0 : Int32) + f0)), (.int (2 : Int32)), (.ref b6)])) rfl rfl (hb hby own_d_prog_68_method_1_code_69) _ ?_
    show Steps p.tables e below (T20.setTop (mkF m 70 #[.val (.ref a), .val (.ref d1), .val (.ref d2), .val (.ref po), .val (.int (2 : Int32))] [(.int f1), (.int ((0 : Int32) + f0)), (.int (2 : Int32)), (.ref b6)])) _
    refine XS.iadd X20.here hx rfl (hb hby own_d_prog_68_method_1_code_70) rfl ?_
    show Steps p.tables e below (T20.setTop (mkF m 71 #[.val (.ref a), .val (.ref d1), .val (.ref d2), .val (.ref po), .val (.int (2 : Int32))] [(.int (((0 : Int32) + f0) + f1)), (.int (2 : Int32)), (.ref b6)])) _
    refine st26 _ ?_
    show Steps p.tables e below (T26.setTop (mkF m 72 #[.val (.ref a), .val (.ref d1), .val (.ref d2), .val (.ref po), .val (.int (2 : Int32))] [])) _
    refine XS.iinc X26.here hx rfl (hb hby own_d_prog_68_method_1_code_72) rfl (l' := #[.val (.ref a), .val (.ref d1), .val (.ref d2), .val (.ref po), .val (.int ((2 : Int32) + (1 : Int32)))]) rfl ?_
    show Steps p.tables e below (T26.setTop (mkF m 75 #[.val (.ref a), .val (.ref d1), .val (.ref d2), .val (.ref po), .val (.int ((2 : Int32) + (1 : Int32)))] [])) _
    rw [fold27]
    show Steps p.tables e below (T26.setTop (mkF m 75 #[.val (.ref a), .val (.ref d1), .val (.ref d2), .val (.ref po), .val (.int (3 : Int32))] [])) _
    refine XS.goto X26.here hx rfl (pc0 := 75) (pc' := 42) rfl (hb hby own_d_prog_68_method_1_code_75) (by decide) (by decide) ?_
    show Steps p.tables e below (T26.setTop (mkF m 42 #[.val (.ref a), .val (.ref d1), .val (.ref d2), .val (.ref po), .val (.int (3 : Int32))] [])) _
    refine XS.iload X26.here hx rfl (hb hby own_d_prog_68_method_1_code_42) rfl ?_
    show Steps p.tables e below (T26.setTop (mkF m 44 #[.val (.ref a), .val (.ref d1), .val (.ref d2), .val (.ref po), .val (.int (3 : Int32))] [(.int (3 : Int32))])) _
    refine XS.aloadN X26.here hx rfl (hb hby own_d_prog_68_method_1_code_44) rfl rfl ?_
    show Steps p.tables e below (T26.setTop (mkF m 45 #[.val (.ref a), .val (.ref d1), .val (.ref d2), .val (.ref po), .val (.int (3 : Int32))] [(.ref d1), (.int (3 : Int32))])) _
    refine X26.arraylength hx (by rw [e26]; exact Ar28.1) (State.isArrayOf_alike hZ.alike Ar28.2.1) (g := (mkF m 45 #[.val (.ref a), .val (.ref d1), .val (.ref d2), .val (.ref po), .val (.int (3 : Int32))] [(.ref d1), (.int (3 : Int32))])) rfl rfl (hb hby own_d_prog_68_method_1_code_45) _ ?_
    rw [len_of S28 M28]
    show Steps p.tables e below (T26.setTop (mkF m 46 #[.val (.ref a), .val (.ref d1), .val (.ref d2), .val (.ref po), .val (.int (3 : Int32))] [(.int (3 : Int32)), (.int (3 : Int32))])) _
    refine XS.icmpYes X26.here hx rfl (pc0 := 46) (pc' := 78) rfl (hb hby own_d_prog_68_method_1_code_46) rfl (flt ((by decide) : ¬ ((3 : Int32) < (3 : Int32)))).2.1 (by decide) (by decide) ?_
    exact k)
  obtain ⟨fs, hr, hrun, hended, hW, hsame⟩ := X26.leave (v := none) (fun _ => rfl)
  refine ⟨_, _, pre29 _ ?_, hrun, hended, _, _, rfl, ?_, ⟨_, rfl⟩, hW, hsame.mono (by decide) (by decide)⟩
  · show Steps p.tables e below (T26.setTop (mkF m 78 #[.val (.ref a), .val (.ref d1), .val (.ref d2), .val (.ref po), .val (.int (3 : Int32))] [])) _
    exact X26.returnOut hx Bd.returns (hb hby own_d_prog_68_method_1_code_78) hr
  · show QI Z a (.ref po) h0 n0 _ T26.heap _
    rw [e26]
    exact ⟨rfl, N26, K26, F26_2⟩
theorem own_ef_rmPn (m : MethodId) (y0 : Addr) : entryFrame m #[(.ref y0)] 1 = mkF m 0 #[.val (.ref y0)] [] := by first | (simp [entryFrame, mkF, argsToLocals, Value.category]; done) | rfl
set_option maxRecDepth 65536 in
set_option maxHeartbeats 40000000 in
theorem rmPn (l : Launch) (Z : State) (a0 : Array Value) (hw : ∀ d ∈ tables_1, d.before a0 Z = true) (ws : List Jvm.Cond) (a : Addr) (h0 : Heap) (n0 : Nat) (Z0 : n0 ≤ h0.size) (F : Fld Z h0 a "com/example/cranfield/cranfield/index/Postings" "positions" "[I" .null) :
    MetFree l (⟨"com/example/cranfield/cranfield/index/Postings", "positionCount", "()I"⟩ : MethodName) (head1 (Jvm.Cond.code (⟨"com/example/cranfield/cranfield/index/Postings", "positionCount", "()I"⟩ : MethodName) prog_68_method_7_code 1 (some .int) :: ws) ({ frames := 0, cells := 0, slots := 0, locals := 0 } : Room)) (fun ar_ U => ar_ = #[(.ref a)] ∧ Z.Warmed39 U.vm ∧ U.heap = h0) (fun _ _ _ _ _ => True) (fun _ U o U' => ∃ v L, o = .returned v ∧ QP (.int (0 : Int32)) h0 n0 v U'.heap L ∧ FrameEnd U o U' L ({ frames := 0, cells := 0, slots := 0, locals := 0 } : Room).cells ({ frames := 0, cells := 0, slots := 0, locals := 0 } : Room).slots) := by
  refine MetFree.of_bodySF (plainFor_of_name own_pn0) hisR ?_
  intro p e s m args below meth c s₁ Bd hml0 hP hK
  obtain ⟨rfl, hZ, hh⟩ := hP
  have hx := Bd.exec
  have hby := Bd.bytes
  have hml : c.maxLocals = 1 := hml0
  have hown : s.vm.findClass "com/example/cranfield/cranfield/index/Postings" = some m.cls := findClass_of_methodNamed Bd.named
  have hnm := (name_of_methodNamed Bd.named Bd.method).1
  have X0 : Stand p l e ({ frames := 0, cells := 0, slots := 0, locals := 0 } : Room) s m #[(.ref a)] below meth c s₁ [] 0 0 := Stand.of_body Bd
  have e0 : s₁.heap = h0 := by rw [← hh, Bd.state]; rfl
  have N0 := Fr.nil n0
  have pre0 : ∀ t, Steps p.tables e below (s₁.setTop (mkF m 0 #[.val (.ref a)] [])) t → Steps p.tables e below (s₁.setTop (entryFrame m #[(.ref a)] 1)) t := fun t k => castTop (own_ef_rmPn m a) k
  obtain ⟨T1, X1, e1, st1⟩ := getF X0 hx hZ hown (host := "") (Or.inl (hw _ (List.mem_of_getElem? (i := 14) rfl))) Via.refl e0 F (g := (mkF m 1 #[.val (.ref a)] [(.ref a)])) rfl rfl (hb hby own_d_prog_68_method_7_code_1)
  have pre2 : ∀ t, Steps p.tables e below (T1.setTop (mkF m 16 #[.val (.ref a)] [(.int (0 : Int32))])) t → Steps p.tables e below (s₁.setTop (entryFrame m #[(.ref a)] 1)) t := fun t k => pre0 t (by
    show Steps p.tables e below (s₁.setTop (mkF m 0 #[.val (.ref a)] [])) _
    refine XS.aloadN X0.here hx rfl (hb hby own_d_prog_68_method_7_code_0) rfl rfl ?_
    show Steps p.tables e below (s₁.setTop (mkF m 1 #[.val (.ref a)] [(.ref a)])) _
    refine st1 _ ?_
    show Steps p.tables e below (T1.setTop (mkF m 4 #[.val (.ref a)] [.null])) _
    refine XS.ifnonnullNo X1.here hx rfl (hb hby own_d_prog_68_method_7_code_4) rfl ?_
    show Steps p.tables e below (T1.setTop (mkF m 7 #[.val (.ref a)] [])) _
    refine XS.iconst X1.here hx rfl (hb hby own_d_prog_68_method_7_code_7) ?_
    show Steps p.tables e below (T1.setTop (mkF m 8 #[.val (.ref a)] [(.int (0 : Int32))])) _
    refine XS.goto X1.here hx rfl (pc0 := 8) (pc' := 16) rfl (hb hby own_d_prog_68_method_7_code_8) (by decide) (by decide) ?_
    exact k)
  obtain ⟨fs, hr, hrun, hended, hW, hsame⟩ := X1.leave (v := some (.int (0 : Int32))) (fun h => by rw [Bd.returns] at h; cases h)
  refine ⟨_, _, pre2 _ ?_, hrun, hended, _, _, rfl, ?_, ⟨_, rfl⟩, hW, hsame.mono (by decide) (by decide)⟩
  · show Steps p.tables e below (T1.setTop (mkF m 16 #[.val (.ref a)] [(.int (0 : Int32))])) _
    exact retI X1 hx Bd.returns (hb hby own_d_prog_68_method_7_code_16) hr
  · show QP (.int (0 : Int32)) h0 n0 _ T1.heap _
    rw [e1]
    exact ⟨rfl, N0, rfl⟩
theorem own_ef_rmHn (m : MethodId) (y0 : Addr) : entryFrame m #[(.ref y0)] 1 = mkF m 0 #[.val (.ref y0)] [] := by first | (simp [entryFrame, mkF, argsToLocals, Value.category]; done) | rfl
set_option maxRecDepth 65536 in
set_option maxHeartbeats 40000000 in
theorem rmHn (l : Launch) (Z : State) (a0 : Array Value) (hw : ∀ d ∈ tables_1, d.before a0 Z = true) (ws : List Jvm.Cond) (a : Addr) (h0 : Heap) (n0 : Nat) (Z0 : n0 ≤ h0.size) (F : Fld Z h0 a "com/example/cranfield/cranfield/index/Postings" "positions" "[I" .null) :
    MetFree l (⟨"com/example/cranfield/cranfield/index/Postings", "hasPositions", "()Z"⟩ : MethodName) (head1 (Jvm.Cond.code (⟨"com/example/cranfield/cranfield/index/Postings", "hasPositions", "()Z"⟩ : MethodName) prog_68_method_5_code 1 (some .boolean) :: ws) ({ frames := 0, cells := 0, slots := 0, locals := 0 } : Room)) (fun ar_ U => ar_ = #[(.ref a)] ∧ Z.Warmed39 U.vm ∧ U.heap = h0) (fun _ _ _ _ _ => True) (fun _ U o U' => ∃ v L, o = .returned v ∧ QP (.int (0 : Int32)) h0 n0 v U'.heap L ∧ FrameEnd U o U' L ({ frames := 0, cells := 0, slots := 0, locals := 0 } : Room).cells ({ frames := 0, cells := 0, slots := 0, locals := 0 } : Room).slots) := by
  refine MetFree.of_bodySF (plainFor_of_name own_pn0) hisR ?_
  intro p e s m args below meth c s₁ Bd hml0 hP hK
  obtain ⟨rfl, hZ, hh⟩ := hP
  have hx := Bd.exec
  have hby := Bd.bytes
  have hml : c.maxLocals = 1 := hml0
  have hown : s.vm.findClass "com/example/cranfield/cranfield/index/Postings" = some m.cls := findClass_of_methodNamed Bd.named
  have hnm := (name_of_methodNamed Bd.named Bd.method).1
  have X0 : Stand p l e ({ frames := 0, cells := 0, slots := 0, locals := 0 } : Room) s m #[(.ref a)] below meth c s₁ [] 0 0 := Stand.of_body Bd
  have e0 : s₁.heap = h0 := by rw [← hh, Bd.state]; rfl
  have N0 := Fr.nil n0
  have pre0 : ∀ t, Steps p.tables e below (s₁.setTop (mkF m 0 #[.val (.ref a)] [])) t → Steps p.tables e below (s₁.setTop (entryFrame m #[(.ref a)] 1)) t := fun t k => castTop (own_ef_rmHn m a) k
  obtain ⟨T1, X1, e1, st1⟩ := getF X0 hx hZ hown (host := "") (Or.inl (hw _ (List.mem_of_getElem? (i := 14) rfl))) Via.refl e0 F (g := (mkF m 1 #[.val (.ref a)] [(.ref a)])) rfl rfl (hb hby own_d_prog_68_method_5_code_1)
  have pre2 : ∀ t, Steps p.tables e below (T1.setTop (mkF m 12 #[.val (.ref a)] [(.int (0 : Int32))])) t → Steps p.tables e below (s₁.setTop (entryFrame m #[(.ref a)] 1)) t := fun t k => pre0 t (by
    show Steps p.tables e below (s₁.setTop (mkF m 0 #[.val (.ref a)] [])) _
    refine XS.aloadN X0.here hx rfl (hb hby own_d_prog_68_method_5_code_0) rfl rfl ?_
    show Steps p.tables e below (s₁.setTop (mkF m 1 #[.val (.ref a)] [(.ref a)])) _
    refine st1 _ ?_
    show Steps p.tables e below (T1.setTop (mkF m 4 #[.val (.ref a)] [.null])) _
    refine XS.ifnullYes X1.here hx rfl (pc0 := 4) (pc' := 11) rfl (hb hby own_d_prog_68_method_5_code_4) rfl (by decide) (by decide) ?_
    show Steps p.tables e below (T1.setTop (mkF m 11 #[.val (.ref a)] [])) _
    refine XS.iconst X1.here hx rfl (hb hby own_d_prog_68_method_5_code_11) ?_
    exact k)
  obtain ⟨fs, hr, hrun, hended, hW, hsame⟩ := X1.leave (v := some (.int (nar .boolean (0 : Int32)))) (fun h => by rw [Bd.returns] at h; cases h)
  refine ⟨_, _, pre2 _ ?_, hrun, hended, _, _, rfl, ?_, ⟨_, rfl⟩, hW, hsame.mono (by decide) (by decide)⟩
  · show Steps p.tables e below (T1.setTop (mkF m 12 #[.val (.ref a)] [(.int (0 : Int32))])) _
    exact retN X1 hx (t := .boolean) Bd.returns (by simp) (hb hby own_d_prog_68_method_5_code_12) hr
  · show QP (.int (0 : Int32)) h0 n0 _ T1.heap _
    rw [e1]
    exact ⟨rfl, N0, rfl⟩
theorem own_ef_rmHr (m : MethodId) (y0 : Addr) : entryFrame m #[(.ref y0)] 1 = mkF m 0 #[.val (.ref y0)] [] := by first | (simp [entryFrame, mkF, argsToLocals, Value.category]; done) | rfl
set_option maxRecDepth 65536 in
set_option maxHeartbeats 40000000 in
theorem rmHr (l : Launch) (Z : State) (a0 : Array Value) (hw : ∀ d ∈ tables_1, d.before a0 Z = true) (ws : List Jvm.Cond) (a po : Addr) (h0 : Heap) (n0 : Nat) (Z0 : n0 ≤ h0.size) (F : Fld Z h0 a "com/example/cranfield/cranfield/index/Postings" "positions" "[I" (.ref po)) :
    MetFree l (⟨"com/example/cranfield/cranfield/index/Postings", "hasPositions", "()Z"⟩ : MethodName) (head1 (Jvm.Cond.code (⟨"com/example/cranfield/cranfield/index/Postings", "hasPositions", "()Z"⟩ : MethodName) prog_68_method_5_code 1 (some .boolean) :: ws) ({ frames := 0, cells := 0, slots := 0, locals := 0 } : Room)) (fun ar_ U => ar_ = #[(.ref a)] ∧ Z.Warmed39 U.vm ∧ U.heap = h0) (fun _ _ _ _ _ => True) (fun _ U o U' => ∃ v L, o = .returned v ∧ QP (.int (1 : Int32)) h0 n0 v U'.heap L ∧ FrameEnd U o U' L ({ frames := 0, cells := 0, slots := 0, locals := 0 } : Room).cells ({ frames := 0, cells := 0, slots := 0, locals := 0 } : Room).slots) := by
  refine MetFree.of_bodySF (plainFor_of_name own_pn0) hisR ?_
  intro p e s m args below meth c s₁ Bd hml0 hP hK
  obtain ⟨rfl, hZ, hh⟩ := hP
  have hx := Bd.exec
  have hby := Bd.bytes
  have hml : c.maxLocals = 1 := hml0
  have hown : s.vm.findClass "com/example/cranfield/cranfield/index/Postings" = some m.cls := findClass_of_methodNamed Bd.named
  have hnm := (name_of_methodNamed Bd.named Bd.method).1
  have X0 : Stand p l e ({ frames := 0, cells := 0, slots := 0, locals := 0 } : Room) s m #[(.ref a)] below meth c s₁ [] 0 0 := Stand.of_body Bd
  have e0 : s₁.heap = h0 := by rw [← hh, Bd.state]; rfl
  have N0 := Fr.nil n0
  have pre0 : ∀ t, Steps p.tables e below (s₁.setTop (mkF m 0 #[.val (.ref a)] [])) t → Steps p.tables e below (s₁.setTop (entryFrame m #[(.ref a)] 1)) t := fun t k => castTop (own_ef_rmHr m a) k
  obtain ⟨T1, X1, e1, st1⟩ := getF X0 hx hZ hown (host := "") (Or.inl (hw _ (List.mem_of_getElem? (i := 14) rfl))) Via.refl e0 F (g := (mkF m 1 #[.val (.ref a)] [(.ref a)])) rfl rfl (hb hby own_d_prog_68_method_5_code_1)
  have pre2 : ∀ t, Steps p.tables e below (T1.setTop (mkF m 12 #[.val (.ref a)] [(.int (1 : Int32))])) t → Steps p.tables e below (s₁.setTop (entryFrame m #[(.ref a)] 1)) t := fun t k => pre0 t (by
    show Steps p.tables e below (s₁.setTop (mkF m 0 #[.val (.ref a)] [])) _
    refine XS.aloadN X0.here hx rfl (hb hby own_d_prog_68_method_5_code_0) rfl rfl ?_
    show Steps p.tables e below (s₁.setTop (mkF m 1 #[.val (.ref a)] [(.ref a)])) _
    refine st1 _ ?_
    show Steps p.tables e below (T1.setTop (mkF m 4 #[.val (.ref a)] [(.ref po)])) _
    refine XS.ifnullNo X1.here hx rfl (hb hby own_d_prog_68_method_5_code_4) rfl ?_
    show Steps p.tables e below (T1.setTop (mkF m 7 #[.val (.ref a)] [])) _
    refine XS.iconst X1.here hx rfl (hb hby own_d_prog_68_method_5_code_7) ?_
    show Steps p.tables e below (T1.setTop (mkF m 8 #[.val (.ref a)] [(.int (1 : Int32))])) _
    refine XS.goto X1.here hx rfl (pc0 := 8) (pc' := 12) rfl (hb hby own_d_prog_68_method_5_code_8) (by decide) (by decide) ?_
    exact k)
  obtain ⟨fs, hr, hrun, hended, hW, hsame⟩ := X1.leave (v := some (.int (nar .boolean (1 : Int32)))) (fun h => by rw [Bd.returns] at h; cases h)
  refine ⟨_, _, pre2 _ ?_, hrun, hended, _, _, rfl, ?_, ⟨_, rfl⟩, hW, hsame.mono (by decide) (by decide)⟩
  · show Steps p.tables e below (T1.setTop (mkF m 12 #[.val (.ref a)] [(.int (1 : Int32))])) _
    exact retN X1 hx (t := .boolean) Bd.returns (by simp) (hb hby own_d_prog_68_method_5_code_12) hr
  · show QP (.int (1 : Int32)) h0 n0 _ T1.heap _
    rw [e1]
    exact ⟨rfl, N0, rfl⟩
theorem own_ef_rmPr (m : MethodId) (y0 : Addr) : entryFrame m #[(.ref y0)] 1 = mkF m 0 #[.val (.ref y0)] [] := by first | (simp [entryFrame, mkF, argsToLocals, Value.category]; done) | rfl
set_option maxRecDepth 65536 in
set_option maxHeartbeats 40000000 in
theorem rmPr (l : Launch) (Z : State) (a0 : Array Value) (hw : ∀ d ∈ tables_1, d.before a0 Z = true) (ws : List Jvm.Cond) (a po : Addr) (k : ClassId) (z : Int32) (hs : List (Int32 × Value)) (vs : List Value) (dv : Value) (h0 : Heap) (n0 : Nat) (Z0 : n0 ≤ h0.size) (F : Fld Z h0 a "com/example/cranfield/cranfield/index/Postings" "positions" "[I" (.ref po)) (A : Arh Z h0 po k .int z hs vs dv) :
    MetFree l (⟨"com/example/cranfield/cranfield/index/Postings", "positionCount", "()I"⟩ : MethodName) (head1 (Jvm.Cond.code (⟨"com/example/cranfield/cranfield/index/Postings", "positionCount", "()I"⟩ : MethodName) prog_68_method_7_code 1 (some .int) :: ws) ({ frames := 0, cells := 0, slots := 0, locals := 0 } : Room)) (fun ar_ U => ar_ = #[(.ref a)] ∧ Z.Warmed39 U.vm ∧ U.heap = h0) (fun _ _ _ _ _ => True) (fun _ U o U' => ∃ v L, o = .returned v ∧ QP (.int z) h0 n0 v U'.heap L ∧ FrameEnd U o U' L ({ frames := 0, cells := 0, slots := 0, locals := 0 } : Room).cells ({ frames := 0, cells := 0, slots := 0, locals := 0 } : Room).slots) := by
  refine MetFree.of_bodySF (plainFor_of_name own_pn0) hisR ?_
  intro p e s m args below meth c s₁ Bd hml0 hP hK
  obtain ⟨rfl, hZ, hh⟩ := hP
  have hx := Bd.exec
  have hby := Bd.bytes
  have hml : c.maxLocals = 1 := hml0
  have hown : s.vm.findClass "com/example/cranfield/cranfield/index/Postings" = some m.cls := findClass_of_methodNamed Bd.named
  have hnm := (name_of_methodNamed Bd.named Bd.method).1
  have X0 : Stand p l e ({ frames := 0, cells := 0, slots := 0, locals := 0 } : Room) s m #[(.ref a)] below meth c s₁ [] 0 0 := Stand.of_body Bd
  have e0 : s₁.heap = h0 := by rw [← hh, Bd.state]; rfl
  have N0 := Fr.nil n0
  have pre0 : ∀ t, Steps p.tables e below (s₁.setTop (mkF m 0 #[.val (.ref a)] [])) t → Steps p.tables e below (s₁.setTop (entryFrame m #[(.ref a)] 1)) t := fun t k => castTop (own_ef_rmPr m a) k
  obtain ⟨T1, X1, e1, st1⟩ := getF X0 hx hZ hown (host := "") (Or.inl (hw _ (List.mem_of_getElem? (i := 14) rfl))) Via.refl e0 F (g := (mkF m 1 #[.val (.ref a)] [(.ref a)])) rfl rfl (hb hby own_d_prog_68_method_7_code_1)
  obtain ⟨T2, X2, e2, st2⟩ := getF X1 hx hZ hown (host := "") (Or.inl (hw _ (List.mem_of_getElem? (i := 14) rfl))) Via.refl e1 F (g := (mkF m 12 #[.val (.ref a)] [(.ref a)])) rfl rfl (hb hby own_d_prog_68_method_7_code_12)
  obtain ⟨cl3, Ar3, q3, S3, M3, H3, G3⟩ := id A
  have pre4 : ∀ t, Steps p.tables e below (T2.setTop (mkF m 16 #[.val (.ref a)] [(.int z)])) t → Steps p.tables e below (s₁.setTop (entryFrame m #[(.ref a)] 1)) t := fun t k => pre0 t (by
    show Steps p.tables e below (s₁.setTop (mkF m 0 #[.val (.ref a)] [])) _
    refine XS.aloadN X0.here hx rfl (hb hby own_d_prog_68_method_7_code_0) rfl rfl ?_
    show Steps p.tables e below (s₁.setTop (mkF m 1 #[.val (.ref a)] [(.ref a)])) _
    refine st1 _ ?_
    show Steps p.tables e below (T1.setTop (mkF m 4 #[.val (.ref a)] [(.ref po)])) _
    refine XS.ifnonnullYes X1.here hx rfl (pc0 := 4) (pc' := 11) rfl (hb hby own_d_prog_68_method_7_code_4) rfl (by decide) (by decide) ?_
    show Steps p.tables e below (T1.setTop (mkF m 11 #[.val (.ref a)] [])) _
    refine XS.aloadN X1.here hx rfl (hb hby own_d_prog_68_method_7_code_11) rfl rfl ?_
    show Steps p.tables e below (T1.setTop (mkF m 12 #[.val (.ref a)] [(.ref a)])) _
    refine st2 _ ?_
    show Steps p.tables e below (T2.setTop (mkF m 15 #[.val (.ref a)] [(.ref po)])) _
    refine X2.arraylength hx (by rw [e2]; exact Ar3.1) (State.isArrayOf_alike hZ.alike Ar3.2.1) (g := (mkF m 15 #[.val (.ref a)] [(.ref po)])) rfl rfl (hb hby own_d_prog_68_method_7_code_15) _ ?_
    rw [len_of S3 M3]
    exact k)
  obtain ⟨fs, hr, hrun, hended, hW, hsame⟩ := X2.leave (v := some (.int z)) (fun h => by rw [Bd.returns] at h; cases h)
  refine ⟨_, _, pre4 _ ?_, hrun, hended, _, _, rfl, ?_, ⟨_, rfl⟩, hW, hsame.mono (by decide) (by decide)⟩
  · show Steps p.tables e below (T2.setTop (mkF m 16 #[.val (.ref a)] [(.int z)])) _
    exact retI X2 hx Bd.returns (hb hby own_d_prog_68_method_7_code_16) hr
  · show QP (.int z) h0 n0 _ T2.heap _
    rw [e2]
    exact ⟨rfl, N0, rfl⟩
theorem own_ef_rm0 (m : MethodId) (y0 : Int32) (y1 : Int32) (y2 : Int32) (y3 : Int32) (y4 : Int32) (y5 : Int32) : entryFrame m #[(.int y0), (.int y1), (.int y2), (.int y3), (.int y4), (.int y5)] maxLocals = mkF m 0 #[.val (.int y0), .val (.int y1), .val (.int y2), .val (.int y3), .val (.int y4), .val (.int y5), .unset, .unset, .unset, .unset, .unset, .unset, .unset, .unset, .unset, .unset, .unset] [] := by first | (simp [entryFrame, mkF, argsToLocals, Value.category, maxLocals]; done) | rfl
set_option maxRecDepth 65536 in
set_option maxHeartbeats 40000000 in
theorem rm0 (l : Launch) (Z : State) (a0 : Array Value) (hw : ∀ d ∈ tables_1, d.before a0 Z = true) (ws : List Jvm.Cond) (p1 p2 p3 p4 p5 p6 : Int32) (h0 : Heap) (n0 : Nat) (Z0 : n0 ≤ h0.size)  :
    MetFree l x (head1 (Jvm.Cond.code x code maxLocals ret :: ws) room_1) (fun ar_ U => ar_ = #[(.int p1), (.int p2), (.int p3), (.int p4), (.int p5), (.int p6)] ∧ Z.Warmed39 U.vm ∧ U.heap = h0) (fun _ _ _ _ _ => True) (fun _ U o U' => ∃ v L, o = .returned v ∧ QL n0 v U'.heap L ∧ FrameEnd U o U' L 5 25) := by
  refine MetFree.of_bodySF (plainFor_of_name own_pn1) hisR ?_
  intro p e s m args below meth c s₁ Bd hml0 hP hK
  obtain ⟨rfl, hZ, hh⟩ := hP
  have hx := Bd.exec
  have hby := Bd.bytes
  have hml : c.maxLocals = 17 := hml0
  have hown : s.vm.findClass "com/example/cranfield/cranfield/index/PostingsPositionCountPinLaw" = some m.cls := findClass_of_methodNamed Bd.named
  have hnm := (name_of_methodNamed Bd.named Bd.method).1
  have X0 : Stand p l e room_1 s m #[(.int p1), (.int p2), (.int p3), (.int p4), (.int p5), (.int p6)] below meth c s₁ [] 0 0 := Stand.of_body Bd
  have e0 : s₁.heap = h0 := by rw [← hh, Bd.state]; rfl
  have N0 := Fr.nil n0
  have pre0 : ∀ t, Steps p.tables e below (s₁.setTop (mkF m 0 #[.val (.int p1), .val (.int p2), .val (.int p3), .val (.int p4), .val (.int p5), .val (.int p6), .unset, .unset, .unset, .unset, .unset, .unset, .unset, .unset, .unset, .unset, .unset] [])) t → Steps p.tables e below (s₁.setTop (entryFrame m #[(.int p1), (.int p2), (.int p3), (.int p4), (.int p5), (.int p6)] maxLocals)) t := fun t k => castTop (own_ef_rm0 m p1 p2 p3 p4 p5 p6) k
  have hn4 := own_n p1
  have pre1 : ∀ t, Steps p.tables e below (s₁.setTop (mkF m 3 #[.val (.int p1), .val (.int p2), .val (.int p3), .val (.int p4), .val (.int p5), .val (.int p6), .unset, .unset, .unset, .unset, .unset, .unset, .unset, .unset, .unset, .unset, .unset] [(.int (p1 &&& (3 : Int32)))])) t → Steps p.tables e below (s₁.setTop (entryFrame m #[(.int p1), (.int p2), (.int p3), (.int p4), (.int p5), (.int p6)] maxLocals)) t := fun t k => pre0 t (by
    show Steps p.tables e below (s₁.setTop (mkF m 0 #[.val (.int p1), .val (.int p2), .val (.int p3), .val (.int p4), .val (.int p5), .val (.int p6), .unset, .unset, .unset, .unset, .unset, .unset, .unset, .unset, .unset, .unset, .unset] [])) _
    refine XS.iloadN X0.here hx rfl (hb hby at_0) rfl ?_
    show Steps p.tables e below (s₁.setTop (mkF m 1 #[.val (.int p1), .val (.int p2), .val (.int p3), .val (.int p4), .val (.int p5), .val (.int p6), .unset, .unset, .unset, .unset, .unset, .unset, .unset, .unset, .unset, .unset, .unset] [(.int p1)])) _
    refine XS.iconst X0.here hx rfl (hb hby at_1) ?_
    show Steps p.tables e below (s₁.setTop (mkF m 2 #[.val (.int p1), .val (.int p2), .val (.int p3), .val (.int p4), .val (.int p5), .val (.int p6), .unset, .unset, .unset, .unset, .unset, .unset, .unset, .unset, .unset, .unset, .unset] [(.int (3 : Int32)), (.int p1)])) _
    refine XS.iand X0.here hx rfl (hb hby at_2) rfl ?_
    exact k)
  obtain ⟨nn, h_nn⟩ : ∃ z : Int32, z = (p1 &&& (3 : Int32)) := ⟨_, rfl⟩
  rw [← h_nn] at pre1
  rw [← h_nn] at hn4
  have hf0 := own_f p2
  have pre2 : ∀ t, Steps p.tables e below (s₁.setTop (mkF m 10 #[.val (.int p1), .val (.int p2), .val (.int p3), .val (.int p4), .val (.int p5), .val (.int p6), .val (.int nn), .unset, .unset, .unset, .unset, .unset, .unset, .unset, .unset, .unset, .unset] [(.int ((p2 &&& (3 : Int32)) + (1 : Int32)))])) t → Steps p.tables e below (s₁.setTop (entryFrame m #[(.int p1), (.int p2), (.int p3), (.int p4), (.int p5), (.int p6)] maxLocals)) t := fun t k => pre1 t (by
    show Steps p.tables e below (s₁.setTop (mkF m 3 #[.val (.int p1), .val (.int p2), .val (.int p3), .val (.int p4), .val (.int p5), .val (.int p6), .unset, .unset, .unset, .unset, .unset, .unset, .unset, .unset, .unset, .unset, .unset] [(.int nn)])) _
    refine XS.istore X0.here hx rfl (hb hby at_3) rfl (l' := #[.val (.int p1), .val (.int p2), .val (.int p3), .val (.int p4), .val (.int p5), .val (.int p6), .val (.int nn), .unset, .unset, .unset, .unset, .unset, .unset, .unset, .unset, .unset, .unset]) rfl ?_
    show Steps p.tables e below (s₁.setTop (mkF m 5 #[.val (.int p1), .val (.int p2), .val (.int p3), .val (.int p4), .val (.int p5), .val (.int p6), .val (.int nn), .unset, .unset, .unset, .unset, .unset, .unset, .unset, .unset, .unset, .unset] [])) _
    refine XS.iloadN X0.here hx rfl (hb hby at_5) rfl ?_
    show Steps p.tables e below (s₁.setTop (mkF m 6 #[.val (.int p1), .val (.int p2), .val (.int p3), .val (.int p4), .val (.int p5), .val (.int p6), .val (.int nn), .unset, .unset, .unset, .unset, .unset, .unset, .unset, .unset, .unset, .unset] [(.int p2)])) _
    refine XS.iconst X0.here hx rfl (hb hby at_6) ?_
    show Steps p.tables e below (s₁.setTop (mkF m 7 #[.val (.int p1), .val (.int p2), .val (.int p3), .val (.int p4), .val (.int p5), .val (.int p6), .val (.int nn), .unset, .unset, .unset, .unset, .unset, .unset, .unset, .unset, .unset, .unset] [(.int (3 : Int32)), (.int p2)])) _
    refine XS.iand X0.here hx rfl (hb hby at_7) rfl ?_
    show Steps p.tables e below (s₁.setTop (mkF m 8 #[.val (.int p1), .val (.int p2), .val (.int p3), .val (.int p4), .val (.int p5), .val (.int p6), .val (.int nn), .unset, .unset, .unset, .unset, .unset, .unset, .unset, .unset, .unset, .unset] [(.int (p2 &&& (3 : Int32)))])) _
    refine XS.iconst X0.here hx rfl (hb hby at_8) ?_
    show Steps p.tables e below (s₁.setTop (mkF m 9 #[.val (.int p1), .val (.int p2), .val (.int p3), .val (.int p4), .val (.int p5), .val (.int p6), .val (.int nn), .unset, .unset, .unset, .unset, .unset, .unset, .unset, .unset, .unset, .unset] [(.int (1 : Int32)), (.int (p2 &&& (3 : Int32)))])) _
    refine XS.iadd X0.here hx rfl (hb hby at_9) rfl ?_
    exact k)
  obtain ⟨f0, h_f0⟩ : ∃ z : Int32, z = ((p2 &&& (3 : Int32)) + (1 : Int32)) := ⟨_, rfl⟩
  rw [← h_f0] at pre2
  rw [← h_f0] at hf0
  have hf1 := own_f p3
  have pre3 : ∀ t, Steps p.tables e below (s₁.setTop (mkF m 17 #[.val (.int p1), .val (.int p2), .val (.int p3), .val (.int p4), .val (.int p5), .val (.int p6), .val (.int nn), .val (.int f0), .unset, .unset, .unset, .unset, .unset, .unset, .unset, .unset, .unset] [(.int ((p3 &&& (3 : Int32)) + (1 : Int32)))])) t → Steps p.tables e below (s₁.setTop (entryFrame m #[(.int p1), (.int p2), (.int p3), (.int p4), (.int p5), (.int p6)] maxLocals)) t := fun t k => pre2 t (by
    show Steps p.tables e below (s₁.setTop (mkF m 10 #[.val (.int p1), .val (.int p2), .val (.int p3), .val (.int p4), .val (.int p5), .val (.int p6), .val (.int nn), .unset, .unset, .unset, .unset, .unset, .unset, .unset, .unset, .unset, .unset] [(.int f0)])) _
    refine XS.istore X0.here hx rfl (hb hby at_10) rfl (l' := #[.val (.int p1), .val (.int p2), .val (.int p3), .val (.int p4), .val (.int p5), .val (.int p6), .val (.int nn), .val (.int f0), .unset, .unset, .unset, .unset, .unset, .unset, .unset, .unset, .unset]) rfl ?_
    show Steps p.tables e below (s₁.setTop (mkF m 12 #[.val (.int p1), .val (.int p2), .val (.int p3), .val (.int p4), .val (.int p5), .val (.int p6), .val (.int nn), .val (.int f0), .unset, .unset, .unset, .unset, .unset, .unset, .unset, .unset, .unset] [])) _
    refine XS.iloadN X0.here hx rfl (hb hby at_12) rfl ?_
    show Steps p.tables e below (s₁.setTop (mkF m 13 #[.val (.int p1), .val (.int p2), .val (.int p3), .val (.int p4), .val (.int p5), .val (.int p6), .val (.int nn), .val (.int f0), .unset, .unset, .unset, .unset, .unset, .unset, .unset, .unset, .unset] [(.int p3)])) _
    refine XS.iconst X0.here hx rfl (hb hby at_13) ?_
    show Steps p.tables e below (s₁.setTop (mkF m 14 #[.val (.int p1), .val (.int p2), .val (.int p3), .val (.int p4), .val (.int p5), .val (.int p6), .val (.int nn), .val (.int f0), .unset, .unset, .unset, .unset, .unset, .unset, .unset, .unset, .unset] [(.int (3 : Int32)), (.int p3)])) _
    refine XS.iand X0.here hx rfl (hb hby at_14) rfl ?_
    show Steps p.tables e below (s₁.setTop (mkF m 15 #[.val (.int p1), .val (.int p2), .val (.int p3), .val (.int p4), .val (.int p5), .val (.int p6), .val (.int nn), .val (.int f0), .unset, .unset, .unset, .unset, .unset, .unset, .unset, .unset, .unset] [(.int (p3 &&& (3 : Int32)))])) _
    refine XS.iconst X0.here hx rfl (hb hby at_15) ?_
    show Steps p.tables e below (s₁.setTop (mkF m 16 #[.val (.int p1), .val (.int p2), .val (.int p3), .val (.int p4), .val (.int p5), .val (.int p6), .val (.int nn), .val (.int f0), .unset, .unset, .unset, .unset, .unset, .unset, .unset, .unset, .unset] [(.int (1 : Int32)), (.int (p3 &&& (3 : Int32)))])) _
    refine XS.iadd X0.here hx rfl (hb hby at_16) rfl ?_
    exact k)
  obtain ⟨f1, h_f1⟩ : ∃ z : Int32, z = ((p3 &&& (3 : Int32)) + (1 : Int32)) := ⟨_, rfl⟩
  rw [← h_f1] at pre3
  rw [← h_f1] at hf1
  have hf2 := own_f p4
  have pre4 : ∀ t, Steps p.tables e below (s₁.setTop (mkF m 24 #[.val (.int p1), .val (.int p2), .val (.int p3), .val (.int p4), .val (.int p5), .val (.int p6), .val (.int nn), .val (.int f0), .val (.int f1), .unset, .unset, .unset, .unset, .unset, .unset, .unset, .unset] [(.int ((p4 &&& (3 : Int32)) + (1 : Int32)))])) t → Steps p.tables e below (s₁.setTop (entryFrame m #[(.int p1), (.int p2), (.int p3), (.int p4), (.int p5), (.int p6)] maxLocals)) t := fun t k => pre3 t (by
    show Steps p.tables e below (s₁.setTop (mkF m 17 #[.val (.int p1), .val (.int p2), .val (.int p3), .val (.int p4), .val (.int p5), .val (.int p6), .val (.int nn), .val (.int f0), .unset, .unset, .unset, .unset, .unset, .unset, .unset, .unset, .unset] [(.int f1)])) _
    refine XS.istore X0.here hx rfl (hb hby at_17) rfl (l' := #[.val (.int p1), .val (.int p2), .val (.int p3), .val (.int p4), .val (.int p5), .val (.int p6), .val (.int nn), .val (.int f0), .val (.int f1), .unset, .unset, .unset, .unset, .unset, .unset, .unset, .unset]) rfl ?_
    show Steps p.tables e below (s₁.setTop (mkF m 19 #[.val (.int p1), .val (.int p2), .val (.int p3), .val (.int p4), .val (.int p5), .val (.int p6), .val (.int nn), .val (.int f0), .val (.int f1), .unset, .unset, .unset, .unset, .unset, .unset, .unset, .unset] [])) _
    refine XS.iloadN X0.here hx rfl (hb hby at_19) rfl ?_
    show Steps p.tables e below (s₁.setTop (mkF m 20 #[.val (.int p1), .val (.int p2), .val (.int p3), .val (.int p4), .val (.int p5), .val (.int p6), .val (.int nn), .val (.int f0), .val (.int f1), .unset, .unset, .unset, .unset, .unset, .unset, .unset, .unset] [(.int p4)])) _
    refine XS.iconst X0.here hx rfl (hb hby at_20) ?_
    show Steps p.tables e below (s₁.setTop (mkF m 21 #[.val (.int p1), .val (.int p2), .val (.int p3), .val (.int p4), .val (.int p5), .val (.int p6), .val (.int nn), .val (.int f0), .val (.int f1), .unset, .unset, .unset, .unset, .unset, .unset, .unset, .unset] [(.int (3 : Int32)), (.int p4)])) _
    refine XS.iand X0.here hx rfl (hb hby at_21) rfl ?_
    show Steps p.tables e below (s₁.setTop (mkF m 22 #[.val (.int p1), .val (.int p2), .val (.int p3), .val (.int p4), .val (.int p5), .val (.int p6), .val (.int nn), .val (.int f0), .val (.int f1), .unset, .unset, .unset, .unset, .unset, .unset, .unset, .unset] [(.int (p4 &&& (3 : Int32)))])) _
    refine XS.iconst X0.here hx rfl (hb hby at_22) ?_
    show Steps p.tables e below (s₁.setTop (mkF m 23 #[.val (.int p1), .val (.int p2), .val (.int p3), .val (.int p4), .val (.int p5), .val (.int p6), .val (.int nn), .val (.int f0), .val (.int f1), .unset, .unset, .unset, .unset, .unset, .unset, .unset, .unset] [(.int (1 : Int32)), (.int (p4 &&& (3 : Int32)))])) _
    refine XS.iadd X0.here hx rfl (hb hby at_23) rfl ?_
    exact k)
  obtain ⟨f2, h_f2⟩ : ∃ z : Int32, z = ((p4 &&& (3 : Int32)) + (1 : Int32)) := ⟨_, rfl⟩
  rw [← h_f2] at pre4
  rw [← h_f2] at hf2
  have hp2 := and_one p6
  have pre5 : ∀ t, Steps p.tables e below (s₁.setTop (mkF m 28 #[.val (.int p1), .val (.int p2), .val (.int p3), .val (.int p4), .val (.int p5), .val (.int p6), .val (.int nn), .val (.int f0), .val (.int f1), .val (.int f2), .unset, .unset, .unset, .unset, .unset, .unset, .unset] [(.int nn)])) t → Steps p.tables e below (s₁.setTop (entryFrame m #[(.int p1), (.int p2), (.int p3), (.int p4), (.int p5), (.int p6)] maxLocals)) t := fun t k => pre4 t (by
    show Steps p.tables e below (s₁.setTop (mkF m 24 #[.val (.int p1), .val (.int p2), .val (.int p3), .val (.int p4), .val (.int p5), .val (.int p6), .val (.int nn), .val (.int f0), .val (.int f1), .unset, .unset, .unset, .unset, .unset, .unset, .unset, .unset] [(.int f2)])) _
    refine XS.istore X0.here hx rfl (hb hby at_24) rfl (l' := #[.val (.int p1), .val (.int p2), .val (.int p3), .val (.int p4), .val (.int p5), .val (.int p6), .val (.int nn), .val (.int f0), .val (.int f1), .val (.int f2), .unset, .unset, .unset, .unset, .unset, .unset, .unset]) rfl ?_
    show Steps p.tables e below (s₁.setTop (mkF m 26 #[.val (.int p1), .val (.int p2), .val (.int p3), .val (.int p4), .val (.int p5), .val (.int p6), .val (.int nn), .val (.int f0), .val (.int f1), .val (.int f2), .unset, .unset, .unset, .unset, .unset, .unset, .unset] [])) _
    refine XS.iload X0.here hx rfl (hb hby at_26) rfl ?_
    exact k)
  rcases hn4 with hn4 | hn4 | hn4 | hn4
  · subst hn4
    obtain ⟨T6, h6, k6, X6, e6, E6, A6, st6⟩ := newP X0 hx hZ (hw _ (List.mem_of_getElem? (i := 0) rfl)) e0 (g := (mkF m 28 #[.val (.int p1), .val (.int p2), .val (.int p3), .val (.int p4), .val (.int p5), .val (.int p6), .val (.int (0 : Int32)), .val (.int f0), .val (.int f1), .val (.int f2), .unset, .unset, .unset, .unset, .unset, .unset, .unset] [(.int (0 : Int32))])) rfl (hb hby at_28) rfl (by decide) (cap := 0) (by decide) (by decide) (by decide) (by decide)
    obtain ⟨b6, g6⟩ : ∃ z, z = h0.size := ⟨_, rfl⟩
    rw [← g6] at A6 st6
    have g_b6 : n0 ≤ b6 := Nat.le_trans Z0 (Nat.le_of_eq g6.symm)
    have z6 : n0 ≤ h6.size := Nat.le_trans Z0 E6.1
    have V_b6 : Arv Z h6 b6 k6 .int (0 : Int32) [] (.int (0 : Int32)) := (Arv.new A6 (by decide)).pad (pad_rep [] (.int (0 : Int32)) 0)
    obtain ⟨T7, h7, k7, X7, e7, E7, A7, st7⟩ := newP X6 hx hZ (hw _ (List.mem_of_getElem? (i := 0) rfl)) e6 (g := (mkF m 34 #[.val (.int p1), .val (.int p2), .val (.int p3), .val (.int p4), .val (.int p5), .val (.int p6), .val (.int (0 : Int32)), .val (.int f0), .val (.int f1), .val (.int f2), .val (.ref b6), .unset, .unset, .unset, .unset, .unset, .unset] [(.int (0 : Int32))])) rfl (hb hby at_34) rfl (by decide) (cap := 0) (by decide) (by decide) (by decide) (by decide)
    obtain ⟨b7, g7⟩ : ∃ z, z = h6.size := ⟨_, rfl⟩
    rw [← g7] at A7 st7
    have ne_b6_b7 : b6 ≠ b7 := Nat.ne_of_lt (Nat.lt_of_lt_of_le (V_b6).lt (Nat.le_of_eq g7.symm))
    have g_b7 : n0 ≤ b7 := Nat.le_trans z6 (Nat.le_of_eq g7.symm)
    have V7_0 := V_b6.ext E7
    have z7 : n0 ≤ h7.size := Nat.le_trans z6 E7.1
    have V_b7 : Arv Z h7 b7 k7 .int (0 : Int32) [] (.int (0 : Int32)) := (Arv.new A7 (by decide)).pad (pad_rep [] (.int (0 : Int32)) 0)
    have fold8 : ((0 : Int32) + (0 : Int32)) = (0 : Int32) := by decide +kernel
    have fold9 : ((0 : Int32) + (0 : Int32)) = (0 : Int32) := by decide +kernel
    have pre10 : ∀ t, Steps p.tables e below (T7.setTop (mkF m 131 #[.val (.int p1), .val (.int p2), .val (.int p3), .val (.int p4), .val (.int p5), .val (.int p6), .val (.int (0 : Int32)), .val (.int f0), .val (.int f1), .val (.int f2), .val (.ref b6), .val (.ref b7), .val (.int (0 : Int32)), .unset, .unset, .unset, .unset] [(.int (p6 &&& (1 : Int32)))])) t → Steps p.tables e below (s₁.setTop (entryFrame m #[(.int p1), (.int p2), (.int p3), (.int p4), (.int p5), (.int p6)] maxLocals)) t := fun t k => pre5 t (by
      show Steps p.tables e below (s₁.setTop (mkF m 28 #[.val (.int p1), .val (.int p2), .val (.int p3), .val (.int p4), .val (.int p5), .val (.int p6), .val (.int (0 : Int32)), .val (.int f0), .val (.int f1), .val (.int f2), .unset, .unset, .unset, .unset, .unset, .unset, .unset] [(.int (0 : Int32))])) _
      refine st6 _ ?_
      show Steps p.tables e below (T6.setTop (mkF m 30 #[.val (.int p1), .val (.int p2), .val (.int p3), .val (.int p4), .val (.int p5), .val (.int p6), .val (.int (0 : Int32)), .val (.int f0), .val (.int f1), .val (.int f2), .unset, .unset, .unset, .unset, .unset, .unset, .unset] [(.ref b6)])) _
      refine XS.astore X6.here hx rfl (hb hby at_30) rfl rfl (l' := #[.val (.int p1), .val (.int p2), .val (.int p3), .val (.int p4), .val (.int p5), .val (.int p6), .val (.int (0 : Int32)), .val (.int f0), .val (.int f1), .val (.int f2), .val (.ref b6), .unset, .unset, .unset, .unset, .unset, .unset]) rfl ?_
      show Steps p.tables e below (T6.setTop (mkF m 32 #[.val (.int p1), .val (.int p2), .val (.int p3), .val (.int p4), .val (.int p5), .val (.int p6), .val (.int (0 : Int32)), .val (.int f0), .val (.int f1), .val (.int f2), .val (.ref b6), .unset, .unset, .unset, .unset, .unset, .unset] [])) _
      refine XS.iload X6.here hx rfl (hb hby at_32) rfl ?_
      show Steps p.tables e below (T6.setTop (mkF m 34 #[.val (.int p1), .val (.int p2), .val (.int p3), .val (.int p4), .val (.int p5), .val (.int p6), .val (.int (0 : Int32)), .val (.int f0), .val (.int f1), .val (.int f2), .val (.ref b6), .unset, .unset, .unset, .unset, .unset, .unset] [(.int (0 : Int32))])) _
      refine st7 _ ?_
      show Steps p.tables e below (T7.setTop (mkF m 36 #[.val (.int p1), .val (.int p2), .val (.int p3), .val (.int p4), .val (.int p5), .val (.int p6), .val (.int (0 : Int32)), .val (.int f0), .val (.int f1), .val (.int f2), .val (.ref b6), .unset, .unset, .unset, .unset, .unset, .unset] [(.ref b7)])) _
      refine XS.astore X7.here hx rfl (hb hby at_36) rfl rfl (l' := #[.val (.int p1), .val (.int p2), .val (.int p3), .val (.int p4), .val (.int p5), .val (.int p6), .val (.int (0 : Int32)), .val (.int f0), .val (.int f1), .val (.int f2), .val (.ref b6), .val (.ref b7), .unset, .unset, .unset, .unset, .unset]) rfl ?_
      show Steps p.tables e below (T7.setTop (mkF m 38 #[.val (.int p1), .val (.int p2), .val (.int p3), .val (.int p4), .val (.int p5), .val (.int p6), .val (.int (0 : Int32)), .val (.int f0), .val (.int f1), .val (.int f2), .val (.ref b6), .val (.ref b7), .unset, .unset, .unset, .unset, .unset] [])) _
      refine XS.iload X7.here hx rfl (hb hby at_38) rfl ?_
      show Steps p.tables e below (T7.setTop (mkF m 40 #[.val (.int p1), .val (.int p2), .val (.int p3), .val (.int p4), .val (.int p5), .val (.int p6), .val (.int (0 : Int32)), .val (.int f0), .val (.int f1), .val (.int f2), .val (.ref b6), .val (.ref b7), .unset, .unset, .unset, .unset, .unset] [(.int (0 : Int32))])) _
      refine XS.ifYes X7.here hx rfl (pc0 := 40) (pc' := 54) rfl (hb hby at_40) rfl ((if0 _ _).trans (flt ((by decide) : ¬ ((0 : Int32) < (0 : Int32)))).2.2.2) (by decide) (by decide) ?_
      show Steps p.tables e below (T7.setTop (mkF m 54 #[.val (.int p1), .val (.int p2), .val (.int p3), .val (.int p4), .val (.int p5), .val (.int p6), .val (.int (0 : Int32)), .val (.int f0), .val (.int f1), .val (.int f2), .val (.ref b6), .val (.ref b7), .unset, .unset, .unset, .unset, .unset] [])) _
      refine XS.iload X7.here hx rfl (hb hby at_54) rfl ?_
      show Steps p.tables e below (T7.setTop (mkF m 56 #[.val (.int p1), .val (.int p2), .val (.int p3), .val (.int p4), .val (.int p5), .val (.int p6), .val (.int (0 : Int32)), .val (.int f0), .val (.int f1), .val (.int f2), .val (.ref b6), .val (.ref b7), .unset, .unset, .unset, .unset, .unset] [(.int (0 : Int32))])) _
      refine XS.iconst X7.here hx rfl (hb hby at_56) ?_
      show Steps p.tables e below (T7.setTop (mkF m 57 #[.val (.int p1), .val (.int p2), .val (.int p3), .val (.int p4), .val (.int p5), .val (.int p6), .val (.int (0 : Int32)), .val (.int f0), .val (.int f1), .val (.int f2), .val (.ref b6), .val (.ref b7), .unset, .unset, .unset, .unset, .unset] [(.int (1 : Int32)), (.int (0 : Int32))])) _
      refine XS.icmpYes X7.here hx rfl (pc0 := 57) (pc' := 71) rfl (hb hby at_57) rfl (flt ((by decide) : ¬ ((1 : Int32) < (0 : Int32)))).2.2.2 (by decide) (by decide) ?_
      show Steps p.tables e below (T7.setTop (mkF m 71 #[.val (.int p1), .val (.int p2), .val (.int p3), .val (.int p4), .val (.int p5), .val (.int p6), .val (.int (0 : Int32)), .val (.int f0), .val (.int f1), .val (.int f2), .val (.ref b6), .val (.ref b7), .unset, .unset, .unset, .unset, .unset] [])) _
      refine XS.iload X7.here hx rfl (hb hby at_71) rfl ?_
      show Steps p.tables e below (T7.setTop (mkF m 73 #[.val (.int p1), .val (.int p2), .val (.int p3), .val (.int p4), .val (.int p5), .val (.int p6), .val (.int (0 : Int32)), .val (.int f0), .val (.int f1), .val (.int f2), .val (.ref b6), .val (.ref b7), .unset, .unset, .unset, .unset, .unset] [(.int (0 : Int32))])) _
      refine XS.iconst X7.here hx rfl (hb hby at_73) ?_
      show Steps p.tables e below (T7.setTop (mkF m 74 #[.val (.int p1), .val (.int p2), .val (.int p3), .val (.int p4), .val (.int p5), .val (.int p6), .val (.int (0 : Int32)), .val (.int f0), .val (.int f1), .val (.int f2), .val (.ref b6), .val (.ref b7), .unset, .unset, .unset, .unset, .unset] [(.int (2 : Int32)), (.int (0 : Int32))])) _
      refine XS.icmpYes X7.here hx rfl (pc0 := 74) (pc' := 88) rfl (hb hby at_74) rfl (flt ((by decide) : ¬ ((2 : Int32) < (0 : Int32)))).2.2.2 (by decide) (by decide) ?_
      show Steps p.tables e below (T7.setTop (mkF m 88 #[.val (.int p1), .val (.int p2), .val (.int p3), .val (.int p4), .val (.int p5), .val (.int p6), .val (.int (0 : Int32)), .val (.int f0), .val (.int f1), .val (.int f2), .val (.ref b6), .val (.ref b7), .unset, .unset, .unset, .unset, .unset] [])) _
      refine XS.iload X7.here hx rfl (hb hby at_88) rfl ?_
      show Steps p.tables e below (T7.setTop (mkF m 90 #[.val (.int p1), .val (.int p2), .val (.int p3), .val (.int p4), .val (.int p5), .val (.int p6), .val (.int (0 : Int32)), .val (.int f0), .val (.int f1), .val (.int f2), .val (.ref b6), .val (.ref b7), .unset, .unset, .unset, .unset, .unset] [(.int (0 : Int32))])) _
      refine XS.ifYes X7.here hx rfl (pc0 := 90) (pc' := 98) rfl (hb hby at_90) rfl ((if0 _ _).trans (flt ((by decide) : ¬ ((0 : Int32) < (0 : Int32)))).2.2.2) (by decide) (by decide) ?_
      show Steps p.tables e below (T7.setTop (mkF m 98 #[.val (.int p1), .val (.int p2), .val (.int p3), .val (.int p4), .val (.int p5), .val (.int p6), .val (.int (0 : Int32)), .val (.int f0), .val (.int f1), .val (.int f2), .val (.ref b6), .val (.ref b7), .unset, .unset, .unset, .unset, .unset] [])) _
      refine XS.iconst X7.here hx rfl (hb hby at_98) ?_
      show Steps p.tables e below (T7.setTop (mkF m 99 #[.val (.int p1), .val (.int p2), .val (.int p3), .val (.int p4), .val (.int p5), .val (.int p6), .val (.int (0 : Int32)), .val (.int f0), .val (.int f1), .val (.int f2), .val (.ref b6), .val (.ref b7), .unset, .unset, .unset, .unset, .unset] [(.int (0 : Int32))])) _
      refine XS.iload X7.here hx rfl (hb hby at_99) rfl ?_
      show Steps p.tables e below (T7.setTop (mkF m 101 #[.val (.int p1), .val (.int p2), .val (.int p3), .val (.int p4), .val (.int p5), .val (.int p6), .val (.int (0 : Int32)), .val (.int f0), .val (.int f1), .val (.int f2), .val (.ref b6), .val (.ref b7), .unset, .unset, .unset, .unset, .unset] [(.int (0 : Int32)), (.int (0 : Int32))])) _
      refine XS.iconst X7.here hx rfl (hb hby at_101) ?_
      show Steps p.tables e below (T7.setTop (mkF m 102 #[.val (.int p1), .val (.int p2), .val (.int p3), .val (.int p4), .val (.int p5), .val (.int p6), .val (.int (0 : Int32)), .val (.int f0), .val (.int f1), .val (.int f2), .val (.ref b6), .val (.ref b7), .unset, .unset, .unset, .unset, .unset] [(.int (1 : Int32)), (.int (0 : Int32)), (.int (0 : Int32))])) _
      refine XS.icmpYes X7.here hx rfl (pc0 := 102) (pc' := 110) rfl (hb hby at_102) rfl (flt ((by decide) : ¬ ((1 : Int32) < (0 : Int32)))).2.2.2 (by decide) (by decide) ?_
      show Steps p.tables e below (T7.setTop (mkF m 110 #[.val (.int p1), .val (.int p2), .val (.int p3), .val (.int p4), .val (.int p5), .val (.int p6), .val (.int (0 : Int32)), .val (.int f0), .val (.int f1), .val (.int f2), .val (.ref b6), .val (.ref b7), .unset, .unset, .unset, .unset, .unset] [(.int (0 : Int32))])) _
      refine XS.iconst X7.here hx rfl (hb hby at_110) ?_
      show Steps p.tables e below (T7.setTop (mkF m 111 #[.val (.int p1), .val (.int p2), .val (.int p3), .val (.int p4), .val (.int p5), .val (.int p6), .val (.int (0 : Int32)), .val (.int f0), .val (.int f1), .val (.int f2), .val (.ref b6), .val (.ref b7), .unset, .unset, .unset, .unset, .unset] [(.int (0 : Int32)), (.int (0 : Int32))])) _
      refine XS.iadd X7.here hx rfl (hb hby at_111) rfl ?_
      show Steps p.tables e below (T7.setTop (mkF m 112 #[.val (.int p1), .val (.int p2), .val (.int p3), .val (.int p4), .val (.int p5), .val (.int p6), .val (.int (0 : Int32)), .val (.int f0), .val (.int f1), .val (.int f2), .val (.ref b6), .val (.ref b7), .unset, .unset, .unset, .unset, .unset] [(.int ((0 : Int32) + (0 : Int32)))])) _
      rw [fold8]
      show Steps p.tables e below (T7.setTop (mkF m 112 #[.val (.int p1), .val (.int p2), .val (.int p3), .val (.int p4), .val (.int p5), .val (.int p6), .val (.int (0 : Int32)), .val (.int f0), .val (.int f1), .val (.int f2), .val (.ref b6), .val (.ref b7), .unset, .unset, .unset, .unset, .unset] [(.int (0 : Int32))])) _
      refine XS.iload X7.here hx rfl (hb hby at_112) rfl ?_
      show Steps p.tables e below (T7.setTop (mkF m 114 #[.val (.int p1), .val (.int p2), .val (.int p3), .val (.int p4), .val (.int p5), .val (.int p6), .val (.int (0 : Int32)), .val (.int f0), .val (.int f1), .val (.int f2), .val (.ref b6), .val (.ref b7), .unset, .unset, .unset, .unset, .unset] [(.int (0 : Int32)), (.int (0 : Int32))])) _
      refine XS.iconst X7.here hx rfl (hb hby at_114) ?_
      show Steps p.tables e below (T7.setTop (mkF m 115 #[.val (.int p1), .val (.int p2), .val (.int p3), .val (.int p4), .val (.int p5), .val (.int p6), .val (.int (0 : Int32)), .val (.int f0), .val (.int f1), .val (.int f2), .val (.ref b6), .val (.ref b7), .unset, .unset, .unset, .unset, .unset] [(.int (2 : Int32)), (.int (0 : Int32)), (.int (0 : Int32))])) _
      refine XS.icmpYes X7.here hx rfl (pc0 := 115) (pc' := 123) rfl (hb hby at_115) rfl (flt ((by decide) : ¬ ((2 : Int32) < (0 : Int32)))).2.2.2 (by decide) (by decide) ?_
      show Steps p.tables e below (T7.setTop (mkF m 123 #[.val (.int p1), .val (.int p2), .val (.int p3), .val (.int p4), .val (.int p5), .val (.int p6), .val (.int (0 : Int32)), .val (.int f0), .val (.int f1), .val (.int f2), .val (.ref b6), .val (.ref b7), .unset, .unset, .unset, .unset, .unset] [(.int (0 : Int32))])) _
      refine XS.iconst X7.here hx rfl (hb hby at_123) ?_
      show Steps p.tables e below (T7.setTop (mkF m 124 #[.val (.int p1), .val (.int p2), .val (.int p3), .val (.int p4), .val (.int p5), .val (.int p6), .val (.int (0 : Int32)), .val (.int f0), .val (.int f1), .val (.int f2), .val (.ref b6), .val (.ref b7), .unset, .unset, .unset, .unset, .unset] [(.int (0 : Int32)), (.int (0 : Int32))])) _
      refine XS.iadd X7.here hx rfl (hb hby at_124) rfl ?_
      show Steps p.tables e below (T7.setTop (mkF m 125 #[.val (.int p1), .val (.int p2), .val (.int p3), .val (.int p4), .val (.int p5), .val (.int p6), .val (.int (0 : Int32)), .val (.int f0), .val (.int f1), .val (.int f2), .val (.ref b6), .val (.ref b7), .unset, .unset, .unset, .unset, .unset] [(.int ((0 : Int32) + (0 : Int32)))])) _
      rw [fold9]
      show Steps p.tables e below (T7.setTop (mkF m 125 #[.val (.int p1), .val (.int p2), .val (.int p3), .val (.int p4), .val (.int p5), .val (.int p6), .val (.int (0 : Int32)), .val (.int f0), .val (.int f1), .val (.int f2), .val (.ref b6), .val (.ref b7), .unset, .unset, .unset, .unset, .unset] [(.int (0 : Int32))])) _
      refine XS.istore X7.here hx rfl (hb hby at_125) rfl (l' := #[.val (.int p1), .val (.int p2), .val (.int p3), .val (.int p4), .val (.int p5), .val (.int p6), .val (.int (0 : Int32)), .val (.int f0), .val (.int f1), .val (.int f2), .val (.ref b6), .val (.ref b7), .val (.int (0 : Int32)), .unset, .unset, .unset, .unset]) rfl ?_
      show Steps p.tables e below (T7.setTop (mkF m 127 #[.val (.int p1), .val (.int p2), .val (.int p3), .val (.int p4), .val (.int p5), .val (.int p6), .val (.int (0 : Int32)), .val (.int f0), .val (.int f1), .val (.int f2), .val (.ref b6), .val (.ref b7), .val (.int (0 : Int32)), .unset, .unset, .unset, .unset] [])) _
      refine XS.iload X7.here hx rfl (hb hby at_127) rfl ?_
      show Steps p.tables e below (T7.setTop (mkF m 129 #[.val (.int p1), .val (.int p2), .val (.int p3), .val (.int p4), .val (.int p5), .val (.int p6), .val (.int (0 : Int32)), .val (.int f0), .val (.int f1), .val (.int f2), .val (.ref b6), .val (.ref b7), .val (.int (0 : Int32)), .unset, .unset, .unset, .unset] [(.int p6)])) _
      refine XS.iconst X7.here hx rfl (hb hby at_129) ?_
      show Steps p.tables e below (T7.setTop (mkF m 130 #[.val (.int p1), .val (.int p2), .val (.int p3), .val (.int p4), .val (.int p5), .val (.int p6), .val (.int (0 : Int32)), .val (.int f0), .val (.int f1), .val (.int f2), .val (.ref b6), .val (.ref b7), .val (.int (0 : Int32)), .unset, .unset, .unset, .unset] [(.int (1 : Int32)), (.int p6)])) _
      refine XS.iand X7.here hx rfl (hb hby at_130) rfl ?_
      exact k)
    rcases hp2 with hp | hp
    · obtain ⟨T11, h11, X11, e11, E11, A11, D11, -, st11⟩ := newO X7 hx hZ hown (hw _ (List.mem_of_getElem? (i := 1) rfl)) (hw _ (List.mem_of_getElem? (i := 2) rfl)) (hw _ (List.mem_of_getElem? (i := 3) rfl)) e7 (g := (mkF m 181 #[.val (.int p1), .val (.int p2), .val (.int p3), .val (.int p4), .val (.int p5), .val (.int p6), .val (.int (0 : Int32)), .val (.int f0), .val (.int f1), .val (.int f2), .val (.ref b6), .val (.ref b7), .val (.int (0 : Int32)), .val (.int (0 : Int32)), .val .null, .unset, .unset] [])) rfl (hb hby at_181) (by decide) (by decide)
      obtain ⟨b11, g11⟩ : ∃ z, z = h7.size := ⟨_, rfl⟩
      rw [← g11] at A11 D11 st11
      have ne_b6_b11 : b6 ≠ b11 := Nat.ne_of_lt (Nat.lt_of_lt_of_le (V7_0).lt (Nat.le_of_eq g11.symm))
      have ne_b7_b11 : b7 ≠ b11 := Nat.ne_of_lt (Nat.lt_of_lt_of_le (V_b7).lt (Nat.le_of_eq g11.symm))
      have g_b11 : n0 ≤ b11 := Nat.le_trans z7 (Nat.le_of_eq g11.symm)
      have V11_0 := V7_0.ext E11
      have V11_1 := V_b7.ext E11
      have z11 : n0 ≤ h11.size := Nat.le_trans z7 E11.1
      have F_documents_b11 : Fld Z h11 b11 "com/example/cranfield/cranfield/index/Postings" "documents" "[I" .null := D11 (Or.inr (hw _ (List.mem_of_getElem? (i := 11) rfl))) (ty := (.array .int)) (by decide)
      have F_frequencies_b11 : Fld Z h11 b11 "com/example/cranfield/cranfield/index/Postings" "frequencies" "[I" .null := D11 (Or.inr (hw _ (List.mem_of_getElem? (i := 13) rfl))) (ty := (.array .int)) (by decide)
      have F_positions_b11 : Fld Z h11 b11 "com/example/cranfield/cranfield/index/Postings" "positions" "[I" .null := D11 (Or.inr (hw _ (List.mem_of_getElem? (i := 15) rfl))) (ty := (.array .int)) (by decide)
      have F_firstPositions_b11 : Fld Z h11 b11 "com/example/cranfield/cranfield/index/Postings" "firstPositions" "[I" .null := D11 (Or.inr (hw _ (List.mem_of_getElem? (i := 17) rfl))) (ty := (.array .int)) (by decide)
      obtain ⟨_, _, ⟨T12, L12, k12, n12⟩, -, X12, ⟨Lc12, hQ12, l12, y12, z12⟩, st12⟩ := X11.specialBack hx (y := (⟨"com/example/cranfield/cranfield/index/Postings", "<init>", "([I[I[I)V"⟩ : MethodName)) rfl hown (mvT hZ (hw _ (List.mem_of_getElem? (i := 4) rfl))) (mvT hZ (hw _ (List.mem_of_getElem? (i := 5) rfl))) (mvT hZ (hw _ (List.mem_of_getElem? (i := 6) rfl))) (by decide) (backOf (W := 1) (rmIn l Z a0 hw [] b11 b6 b7  h11 n0 z11 A11 g_b11 F_documents_b11 F_frequencies_b11 F_positions_b11 F_firstPositions_b11) hZ (hw _ (List.mem_of_getElem? (i := 6) rfl)) (hw _ (List.mem_of_getElem? (i := 3) rfl)) (by decide) (by decide)) (g := (mkF m 191 #[.val (.int p1), .val (.int p2), .val (.int p3), .val (.int p4), .val (.int p5), .val (.int p6), .val (.int (0 : Int32)), .val (.int f0), .val (.int f1), .val (.int f2), .val (.ref b6), .val (.ref b7), .val (.int (0 : Int32)), .val (.int (0 : Int32)), .val .null, .unset, .unset] [.null, (.ref b7), (.ref b6), (.ref b11), (.ref b11)])) rfl (by rw [hml]; rfl) (Steps.refl _) (a := b11) (argsL := [(.ref b6), (.ref b7), .null]) (rest := [(.ref b11)]) (lenOf own_pd0 rfl) rfl (by show 2 * 0 + _ ≤ _; exact Nat.le_of_eq rfl) (hb hby at_191) (fun _ _ => ⟨rfl, e11, (by decide : 3 + 0 ≤ _), (by decide : 4 + 0 ≤ _)⟩)
      dsimp only [Pt.U, Pt.locs, Pt.cells, Pt.slots] at X12 l12 y12 z12 st12 hQ12
      subst l12 y12 z12
      obtain ⟨h12, e12⟩ : ∃ z, T12.heap = z := ⟨_, rfl⟩
      rw [e12] at hQ12
      obtain ⟨rfl, N12q, Kc12, fp12⟩ := hQ12
      have N12 := Fr.app N0 N12q
      have X12_178 := A11.keep Kc12
      have V12_179 := V11_0.keep Kc12 (ninS ne_b6_b11 nin0)
      have V12_180 := V11_1.keep Kc12 (ninS ne_b7_b11 nin0)
      have z12 : n0 ≤ h12.size := Nat.le_trans z11 Kc12.1
      obtain ⟨cq13, kq13, q13a, q13b, q13c⟩ := isOf hZ e12 X12_178
      obtain ⟨_, _, ⟨T13, L13, k13, n13⟩, -, X13, ⟨Lc13, hQ13, l13, y13, z13⟩, st13⟩ := X12.virtualBack hx (y := (⟨"com/example/cranfield/cranfield/index/Postings", "positionCount", "()I"⟩ : MethodName)) (z := (⟨"com/example/cranfield/cranfield/index/Postings", "positionCount", "()I"⟩ : MethodName)) hown (mvT hZ (hw _ (List.mem_of_getElem? (i := 18) rfl))) (mvT hZ (hw _ (List.mem_of_getElem? (i := 19) rfl))) (notFace_of_selects (args := #[]) (mvT hZ (hw _ (List.mem_of_getElem? (i := 21) rfl)))) (mvT hZ (hw _ (List.mem_of_getElem? (i := 21) rfl))) (mvT hZ (hw _ (List.mem_of_getElem? (i := 20) rfl))) (by decide) (backOf (W := 0) (rmPn l Z a0 hw [] b11  h12 n0 z12 fp12) hZ (hw _ (List.mem_of_getElem? (i := 22) rfl)) (hw _ (List.mem_of_getElem? (i := 3) rfl)) (by decide) (by decide)) q13a q13c (g := (mkF m 198 #[.val (.int p1), .val (.int p2), .val (.int p3), .val (.int p4), .val (.int p5), .val (.int p6), .val (.int (0 : Int32)), .val (.int f0), .val (.int f1), .val (.int f2), .val (.ref b6), .val (.ref b7), .val (.int (0 : Int32)), .val (.int (0 : Int32)), .val .null, .val (.ref b11), .unset] [(.ref b11)])) rfl (by rw [hml]; rfl) (Steps.refl _) (argsL := []) (rest := []) (lenOf own_pd1 rfl) rfl (by show 2 * 0 + _ ≤ _; exact Nat.le_of_eq rfl) (hb hby at_198) (fun _ _ => ⟨rfl, e12, (by decide : 3 + 0 ≤ _), (by decide : 4 + 0 ≤ _)⟩)
      dsimp only [Pt.U, Pt.locs, Pt.cells, Pt.slots] at X13 l13 y13 z13 st13 hQ13
      subst l13 y13 z13
      obtain ⟨rfl, N13q, e13⟩ := hQ13
      have N13 := Fr.app N12 N13q
      obtain ⟨cq14, kq14, q14a, q14b, q14c⟩ := isOf hZ e13 X12_178
      obtain ⟨_, _, ⟨T14, L14, k14, n14⟩, -, X14, ⟨Lc14, hQ14, l14, y14, z14⟩, st14⟩ := X13.virtualBack hx (y := (⟨"com/example/cranfield/cranfield/index/Postings", "hasPositions", "()Z"⟩ : MethodName)) (z := (⟨"com/example/cranfield/cranfield/index/Postings", "hasPositions", "()Z"⟩ : MethodName)) hown (mvT hZ (hw _ (List.mem_of_getElem? (i := 23) rfl))) (mvT hZ (hw _ (List.mem_of_getElem? (i := 24) rfl))) (notFace_of_selects (args := #[]) (mvT hZ (hw _ (List.mem_of_getElem? (i := 26) rfl)))) (mvT hZ (hw _ (List.mem_of_getElem? (i := 26) rfl))) (mvT hZ (hw _ (List.mem_of_getElem? (i := 25) rfl))) (by decide) (backOf (W := 0) (rmHn l Z a0 hw [] b11  h12 n0 z12 fp12) hZ (hw _ (List.mem_of_getElem? (i := 27) rfl)) (hw _ (List.mem_of_getElem? (i := 3) rfl)) (by decide) (by decide)) q14a q14c (g := (mkF m 205 #[.val (.int p1), .val (.int p2), .val (.int p3), .val (.int p4), .val (.int p5), .val (.int p6), .val (.int (0 : Int32)), .val (.int f0), .val (.int f1), .val (.int f2), .val (.ref b6), .val (.ref b7), .val (.int (0 : Int32)), .val (.int (0 : Int32)), .val .null, .val (.ref b11), .val (.int (0 : Int32))] [(.ref b11)])) rfl (by rw [hml]; rfl) (Steps.refl _) (argsL := []) (rest := []) (lenOf own_pd2 rfl) rfl (by show 2 * 0 + _ ≤ _; exact Nat.le_of_eq rfl) (hb hby at_205) (fun _ _ => ⟨rfl, e13, (by decide : 3 + 0 ≤ _), (by decide : 4 + 0 ≤ _)⟩)
      dsimp only [Pt.U, Pt.locs, Pt.cells, Pt.slots] at X14 l14 y14 z14 st14 hQ14
      subst l14 y14 z14
      obtain ⟨rfl, N14q, e14⟩ := hQ14
      have N14 := Fr.app N13 N14q
      have pre15 : ∀ t, Steps p.tables e below (T14.setTop (mkF m 243 #[.val (.int p1), .val (.int p2), .val (.int p3), .val (.int p4), .val (.int p5), .val (.int p6), .val (.int (0 : Int32)), .val (.int f0), .val (.int f1), .val (.int f2), .val (.ref b6), .val (.ref b7), .val (.int (0 : Int32)), .val (.int (0 : Int32)), .val .null, .val (.ref b11), .val (.int (0 : Int32))] [(.int (1 : Int32))])) t → Steps p.tables e below (s₁.setTop (entryFrame m #[(.int p1), (.int p2), (.int p3), (.int p4), (.int p5), (.int p6)] maxLocals)) t := fun t k => pre10 t (by
        show Steps p.tables e below (T7.setTop (mkF m 131 #[.val (.int p1), .val (.int p2), .val (.int p3), .val (.int p4), .val (.int p5), .val (.int p6), .val (.int (0 : Int32)), .val (.int f0), .val (.int f1), .val (.int f2), .val (.ref b6), .val (.ref b7), .val (.int (0 : Int32)), .unset, .unset, .unset, .unset] [(.int (p6 &&& (1 : Int32)))])) _
        refine XS.ifYes X7.here hx rfl (pc0 := 131) (pc' := 138) rfl (hb hby at_131) rfl ((if0 _ _).trans (teq (hp : (p6 &&& (1 : Int32)) = (0 : Int32))).1) (by decide) (by decide) ?_
        show Steps p.tables e below (T7.setTop (mkF m 138 #[.val (.int p1), .val (.int p2), .val (.int p3), .val (.int p4), .val (.int p5), .val (.int p6), .val (.int (0 : Int32)), .val (.int f0), .val (.int f1), .val (.int f2), .val (.ref b6), .val (.ref b7), .val (.int (0 : Int32)), .unset, .unset, .unset, .unset] [])) _
        refine XS.iconst X7.here hx rfl (hb hby at_138) ?_
        show Steps p.tables e below (T7.setTop (mkF m 139 #[.val (.int p1), .val (.int p2), .val (.int p3), .val (.int p4), .val (.int p5), .val (.int p6), .val (.int (0 : Int32)), .val (.int f0), .val (.int f1), .val (.int f2), .val (.ref b6), .val (.ref b7), .val (.int (0 : Int32)), .unset, .unset, .unset, .unset] [(.int (0 : Int32))])) _
        refine XS.istore X7.here hx rfl (hb hby at_139) rfl (l' := #[.val (.int p1), .val (.int p2), .val (.int p3), .val (.int p4), .val (.int p5), .val (.int p6), .val (.int (0 : Int32)), .val (.int f0), .val (.int f1), .val (.int f2), .val (.ref b6), .val (.ref b7), .val (.int (0 : Int32)), .val (.int (0 : Int32)), .unset, .unset, .unset]) rfl ?_
        show Steps p.tables e below (T7.setTop (mkF m 141 #[.val (.int p1), .val (.int p2), .val (.int p3), .val (.int p4), .val (.int p5), .val (.int p6), .val (.int (0 : Int32)), .val (.int f0), .val (.int f1), .val (.int f2), .val (.ref b6), .val (.ref b7), .val (.int (0 : Int32)), .val (.int (0 : Int32)), .unset, .unset, .unset] [])) _
        refine XS.aconstNull X7.here hx rfl (hb hby at_141) ?_
        show Steps p.tables e below (T7.setTop (mkF m 142 #[.val (.int p1), .val (.int p2), .val (.int p3), .val (.int p4), .val (.int p5), .val (.int p6), .val (.int (0 : Int32)), .val (.int f0), .val (.int f1), .val (.int f2), .val (.ref b6), .val (.ref b7), .val (.int (0 : Int32)), .val (.int (0 : Int32)), .unset, .unset, .unset] [.null])) _
        refine XS.astore X7.here hx rfl (hb hby at_142) rfl rfl (l' := #[.val (.int p1), .val (.int p2), .val (.int p3), .val (.int p4), .val (.int p5), .val (.int p6), .val (.int (0 : Int32)), .val (.int f0), .val (.int f1), .val (.int f2), .val (.ref b6), .val (.ref b7), .val (.int (0 : Int32)), .val (.int (0 : Int32)), .val .null, .unset, .unset]) rfl ?_
        show Steps p.tables e below (T7.setTop (mkF m 144 #[.val (.int p1), .val (.int p2), .val (.int p3), .val (.int p4), .val (.int p5), .val (.int p6), .val (.int (0 : Int32)), .val (.int f0), .val (.int f1), .val (.int f2), .val (.ref b6), .val (.ref b7), .val (.int (0 : Int32)), .val (.int (0 : Int32)), .val .null, .unset, .unset] [])) _
        refine XS.iload X7.here hx rfl (hb hby at_144) rfl ?_
        show Steps p.tables e below (T7.setTop (mkF m 146 #[.val (.int p1), .val (.int p2), .val (.int p3), .val (.int p4), .val (.int p5), .val (.int p6), .val (.int (0 : Int32)), .val (.int f0), .val (.int f1), .val (.int f2), .val (.ref b6), .val (.ref b7), .val (.int (0 : Int32)), .val (.int (0 : Int32)), .val .null, .unset, .unset] [(.int (0 : Int32))])) _
        refine XS.ifYes X7.here hx rfl (pc0 := 146) (pc' := 181) rfl (hb hby at_146) rfl ((if0 _ _).trans (teq ((by decide) : (0 : Int32) = (0 : Int32))).1) (by decide) (by decide) ?_
        show Steps p.tables e below (T7.setTop (mkF m 181 #[.val (.int p1), .val (.int p2), .val (.int p3), .val (.int p4), .val (.int p5), .val (.int p6), .val (.int (0 : Int32)), .val (.int f0), .val (.int f1), .val (.int f2), .val (.ref b6), .val (.ref b7), .val (.int (0 : Int32)), .val (.int (0 : Int32)), .val .null, .unset, .unset] [])) _
        refine st11 _ ?_
        show Steps p.tables e below (T11.setTop (mkF m 184 #[.val (.int p1), .val (.int p2), .val (.int p3), .val (.int p4), .val (.int p5), .val (.int p6), .val (.int (0 : Int32)), .val (.int f0), .val (.int f1), .val (.int f2), .val (.ref b6), .val (.ref b7), .val (.int (0 : Int32)), .val (.int (0 : Int32)), .val .null, .unset, .unset] [(.ref b11)])) _
        refine XS.dup X11.here hx rfl (hb hby at_184) rfl rfl ?_
        show Steps p.tables e below (T11.setTop (mkF m 185 #[.val (.int p1), .val (.int p2), .val (.int p3), .val (.int p4), .val (.int p5), .val (.int p6), .val (.int (0 : Int32)), .val (.int f0), .val (.int f1), .val (.int f2), .val (.ref b6), .val (.ref b7), .val (.int (0 : Int32)), .val (.int (0 : Int32)), .val .null, .unset, .unset] [(.ref b11), (.ref b11)])) _
        refine XS.aload X11.here hx rfl (hb hby at_185) rfl rfl ?_
        show Steps p.tables e below (T11.setTop (mkF m 187 #[.val (.int p1), .val (.int p2), .val (.int p3), .val (.int p4), .val (.int p5), .val (.int p6), .val (.int (0 : Int32)), .val (.int f0), .val (.int f1), .val (.int f2), .val (.ref b6), .val (.ref b7), .val (.int (0 : Int32)), .val (.int (0 : Int32)), .val .null, .unset, .unset] [(.ref b6), (.ref b11), (.ref b11)])) _
        refine XS.aload X11.here hx rfl (hb hby at_187) rfl rfl ?_
        show Steps p.tables e below (T11.setTop (mkF m 189 #[.val (.int p1), .val (.int p2), .val (.int p3), .val (.int p4), .val (.int p5), .val (.int p6), .val (.int (0 : Int32)), .val (.int f0), .val (.int f1), .val (.int f2), .val (.ref b6), .val (.ref b7), .val (.int (0 : Int32)), .val (.int (0 : Int32)), .val .null, .unset, .unset] [(.ref b7), (.ref b6), (.ref b11), (.ref b11)])) _
        refine XS.aload X11.here hx rfl (hb hby at_189) rfl rfl ?_
        show Steps p.tables e below (T11.setTop (mkF m 191 #[.val (.int p1), .val (.int p2), .val (.int p3), .val (.int p4), .val (.int p5), .val (.int p6), .val (.int (0 : Int32)), .val (.int f0), .val (.int f1), .val (.int f2), .val (.ref b6), .val (.ref b7), .val (.int (0 : Int32)), .val (.int (0 : Int32)), .val .null, .unset, .unset] [.null, (.ref b7), (.ref b6), (.ref b11), (.ref b11)])) _
        refine st12.trans ?_
        show Steps p.tables e below (T12.setTop (mkF m 194 #[.val (.int p1), .val (.int p2), .val (.int p3), .val (.int p4), .val (.int p5), .val (.int p6), .val (.int (0 : Int32)), .val (.int f0), .val (.int f1), .val (.int f2), .val (.ref b6), .val (.ref b7), .val (.int (0 : Int32)), .val (.int (0 : Int32)), .val .null, .unset, .unset] [(.ref b11)])) _
        refine XS.astore X12.here hx rfl (hb hby at_194) rfl rfl (l' := #[.val (.int p1), .val (.int p2), .val (.int p3), .val (.int p4), .val (.int p5), .val (.int p6), .val (.int (0 : Int32)), .val (.int f0), .val (.int f1), .val (.int f2), .val (.ref b6), .val (.ref b7), .val (.int (0 : Int32)), .val (.int (0 : Int32)), .val .null, .val (.ref b11), .unset]) rfl ?_
        show Steps p.tables e below (T12.setTop (mkF m 196 #[.val (.int p1), .val (.int p2), .val (.int p3), .val (.int p4), .val (.int p5), .val (.int p6), .val (.int (0 : Int32)), .val (.int f0), .val (.int f1), .val (.int f2), .val (.ref b6), .val (.ref b7), .val (.int (0 : Int32)), .val (.int (0 : Int32)), .val .null, .val (.ref b11), .unset] [])) _
        refine XS.aload X12.here hx rfl (hb hby at_196) rfl rfl ?_
        show Steps p.tables e below (T12.setTop (mkF m 198 #[.val (.int p1), .val (.int p2), .val (.int p3), .val (.int p4), .val (.int p5), .val (.int p6), .val (.int (0 : Int32)), .val (.int f0), .val (.int f1), .val (.int f2), .val (.ref b6), .val (.ref b7), .val (.int (0 : Int32)), .val (.int (0 : Int32)), .val .null, .val (.ref b11), .unset] [(.ref b11)])) _
        refine st13.trans ?_
        show Steps p.tables e below (T13.setTop (mkF m 201 #[.val (.int p1), .val (.int p2), .val (.int p3), .val (.int p4), .val (.int p5), .val (.int p6), .val (.int (0 : Int32)), .val (.int f0), .val (.int f1), .val (.int f2), .val (.ref b6), .val (.ref b7), .val (.int (0 : Int32)), .val (.int (0 : Int32)), .val .null, .val (.ref b11), .unset] [(.int (0 : Int32))])) _
        refine XS.istore X13.here hx rfl (hb hby at_201) rfl (l' := #[.val (.int p1), .val (.int p2), .val (.int p3), .val (.int p4), .val (.int p5), .val (.int p6), .val (.int (0 : Int32)), .val (.int f0), .val (.int f1), .val (.int f2), .val (.ref b6), .val (.ref b7), .val (.int (0 : Int32)), .val (.int (0 : Int32)), .val .null, .val (.ref b11), .val (.int (0 : Int32))]) rfl ?_
        show Steps p.tables e below (T13.setTop (mkF m 203 #[.val (.int p1), .val (.int p2), .val (.int p3), .val (.int p4), .val (.int p5), .val (.int p6), .val (.int (0 : Int32)), .val (.int f0), .val (.int f1), .val (.int f2), .val (.ref b6), .val (.ref b7), .val (.int (0 : Int32)), .val (.int (0 : Int32)), .val .null, .val (.ref b11), .val (.int (0 : Int32))] [])) _
        refine XS.aload X13.here hx rfl (hb hby at_203) rfl rfl ?_
        show Steps p.tables e below (T13.setTop (mkF m 205 #[.val (.int p1), .val (.int p2), .val (.int p3), .val (.int p4), .val (.int p5), .val (.int p6), .val (.int (0 : Int32)), .val (.int f0), .val (.int f1), .val (.int f2), .val (.ref b6), .val (.ref b7), .val (.int (0 : Int32)), .val (.int (0 : Int32)), .val .null, .val (.ref b11), .val (.int (0 : Int32))] [(.ref b11)])) _
        refine st14.trans ?_
        show Steps p.tables e below (T14.setTop (mkF m 208 #[.val (.int p1), .val (.int p2), .val (.int p3), .val (.int p4), .val (.int p5), .val (.int p6), .val (.int (0 : Int32)), .val (.int f0), .val (.int f1), .val (.int f2), .val (.ref b6), .val (.ref b7), .val (.int (0 : Int32)), .val (.int (0 : Int32)), .val .null, .val (.ref b11), .val (.int (0 : Int32))] [(.int (0 : Int32))])) _
        refine XS.iload X14.here hx rfl (hb hby at_208) rfl ?_
        show Steps p.tables e below (T14.setTop (mkF m 210 #[.val (.int p1), .val (.int p2), .val (.int p3), .val (.int p4), .val (.int p5), .val (.int p6), .val (.int (0 : Int32)), .val (.int f0), .val (.int f1), .val (.int f2), .val (.ref b6), .val (.ref b7), .val (.int (0 : Int32)), .val (.int (0 : Int32)), .val .null, .val (.ref b11), .val (.int (0 : Int32))] [(.int (0 : Int32)), (.int (0 : Int32))])) _
        refine XS.icmpYes X14.here hx rfl (pc0 := 210) (pc' := 215) rfl (hb hby at_210) rfl (teq ((by decide) : (0 : Int32) = (0 : Int32))).1 (by decide) (by decide) ?_
        show Steps p.tables e below (T14.setTop (mkF m 215 #[.val (.int p1), .val (.int p2), .val (.int p3), .val (.int p4), .val (.int p5), .val (.int p6), .val (.int (0 : Int32)), .val (.int f0), .val (.int f1), .val (.int f2), .val (.ref b6), .val (.ref b7), .val (.int (0 : Int32)), .val (.int (0 : Int32)), .val .null, .val (.ref b11), .val (.int (0 : Int32))] [])) _
        refine XS.iload X14.here hx rfl (hb hby at_215) rfl ?_
        show Steps p.tables e below (T14.setTop (mkF m 217 #[.val (.int p1), .val (.int p2), .val (.int p3), .val (.int p4), .val (.int p5), .val (.int p6), .val (.int (0 : Int32)), .val (.int f0), .val (.int f1), .val (.int f2), .val (.ref b6), .val (.ref b7), .val (.int (0 : Int32)), .val (.int (0 : Int32)), .val .null, .val (.ref b11), .val (.int (0 : Int32))] [(.int (0 : Int32))])) _
        refine XS.ifYes X14.here hx rfl (pc0 := 217) (pc' := 233) rfl (hb hby at_217) rfl ((if0 _ _).trans (teq ((by decide) : (0 : Int32) = (0 : Int32))).1) (by decide) (by decide) ?_
        show Steps p.tables e below (T14.setTop (mkF m 233 #[.val (.int p1), .val (.int p2), .val (.int p3), .val (.int p4), .val (.int p5), .val (.int p6), .val (.int (0 : Int32)), .val (.int f0), .val (.int f1), .val (.int f2), .val (.ref b6), .val (.ref b7), .val (.int (0 : Int32)), .val (.int (0 : Int32)), .val .null, .val (.ref b11), .val (.int (0 : Int32))] [])) _
        refine XS.iload X14.here hx rfl (hb hby at_233) rfl ?_
        show Steps p.tables e below (T14.setTop (mkF m 235 #[.val (.int p1), .val (.int p2), .val (.int p3), .val (.int p4), .val (.int p5), .val (.int p6), .val (.int (0 : Int32)), .val (.int f0), .val (.int f1), .val (.int f2), .val (.ref b6), .val (.ref b7), .val (.int (0 : Int32)), .val (.int (0 : Int32)), .val .null, .val (.ref b11), .val (.int (0 : Int32))] [(.int (0 : Int32))])) _
        refine XS.ifNo X14.here hx rfl (hb hby at_235) rfl ((if0 _ _).trans (teq ((by decide) : (0 : Int32) = (0 : Int32))).2) ?_
        show Steps p.tables e below (T14.setTop (mkF m 238 #[.val (.int p1), .val (.int p2), .val (.int p3), .val (.int p4), .val (.int p5), .val (.int p6), .val (.int (0 : Int32)), .val (.int f0), .val (.int f1), .val (.int f2), .val (.ref b6), .val (.ref b7), .val (.int (0 : Int32)), .val (.int (0 : Int32)), .val .null, .val (.ref b11), .val (.int (0 : Int32))] [])) _
        refine XS.iconst X14.here hx rfl (hb hby at_238) ?_
        show Steps p.tables e below (T14.setTop (mkF m 239 #[.val (.int p1), .val (.int p2), .val (.int p3), .val (.int p4), .val (.int p5), .val (.int p6), .val (.int (0 : Int32)), .val (.int f0), .val (.int f1), .val (.int f2), .val (.ref b6), .val (.ref b7), .val (.int (0 : Int32)), .val (.int (0 : Int32)), .val .null, .val (.ref b11), .val (.int (0 : Int32))] [(.int (1 : Int32))])) _
        refine XS.goto X14.here hx rfl (pc0 := 239) (pc' := 243) rfl (hb hby at_239) (by decide) (by decide) ?_
        exact k)
      obtain ⟨fs, hr, hrun, hended, hW, hsame⟩ := X14.leave (v := some (.int (nar .boolean (1 : Int32)))) (fun h => by rw [Bd.returns] at h; cases h)
      refine ⟨_, _, pre15 _ ?_, hrun, hended, _, _, rfl, ?_, ⟨_, rfl⟩, hW, hsame.mono (by decide) (by decide)⟩
      · show Steps p.tables e below (T14.setTop (mkF m 243 #[.val (.int p1), .val (.int p2), .val (.int p3), .val (.int p4), .val (.int p5), .val (.int p6), .val (.int (0 : Int32)), .val (.int f0), .val (.int f1), .val (.int f2), .val (.ref b6), .val (.ref b7), .val (.int (0 : Int32)), .val (.int (0 : Int32)), .val .null, .val (.ref b11), .val (.int (0 : Int32))] [(.int (1 : Int32))])) _
        exact retN X14 hx (t := .boolean) Bd.returns (by simp) (hb hby at_243) hr
      · show QL n0 _ T14.heap _
        rw [e14]
        exact ⟨rfl, N14⟩
    · obtain ⟨T16, h16, k16, X16, e16, E16, A16, st16⟩ := newP X7 hx hZ (hw _ (List.mem_of_getElem? (i := 0) rfl)) e7 (g := (mkF m 151 #[.val (.int p1), .val (.int p2), .val (.int p3), .val (.int p4), .val (.int p5), .val (.int p6), .val (.int (0 : Int32)), .val (.int f0), .val (.int f1), .val (.int f2), .val (.ref b6), .val (.ref b7), .val (.int (0 : Int32)), .val (.int (1 : Int32)), .val .null, .unset, .unset] [(.int (0 : Int32))])) rfl (hb hby at_151) rfl (by decide) (cap := 0) (by decide) (by decide) (by decide) (by decide)
      obtain ⟨b16, g16⟩ : ∃ z, z = h7.size := ⟨_, rfl⟩
      rw [← g16] at A16 st16
      have ne_b6_b16 : b6 ≠ b16 := Nat.ne_of_lt (Nat.lt_of_lt_of_le (V7_0).lt (Nat.le_of_eq g16.symm))
      have ne_b7_b16 : b7 ≠ b16 := Nat.ne_of_lt (Nat.lt_of_lt_of_le (V_b7).lt (Nat.le_of_eq g16.symm))
      have g_b16 : n0 ≤ b16 := Nat.le_trans z7 (Nat.le_of_eq g16.symm)
      have V16_0 := V7_0.ext E16
      have V16_1 := V_b7.ext E16
      have z16 : n0 ≤ h16.size := Nat.le_trans z7 E16.1
      have V_b16 : Arv Z h16 b16 k16 .int (0 : Int32) [] (.int (0 : Int32)) := (Arv.new A16 (by decide)).pad (pad_rep [] (.int (0 : Int32)) 0)
      obtain ⟨T17, h17, X17, e17, E17, A17, D17, -, st17⟩ := newO X16 hx hZ hown (hw _ (List.mem_of_getElem? (i := 1) rfl)) (hw _ (List.mem_of_getElem? (i := 2) rfl)) (hw _ (List.mem_of_getElem? (i := 3) rfl)) e16 (g := (mkF m 181 #[.val (.int p1), .val (.int p2), .val (.int p3), .val (.int p4), .val (.int p5), .val (.int p6), .val (.int (0 : Int32)), .val (.int f0), .val (.int f1), .val (.int f2), .val (.ref b6), .val (.ref b7), .val (.int (0 : Int32)), .val (.int (1 : Int32)), .val (.ref b16), .unset, .unset] [])) rfl (hb hby at_181) (by decide) (by decide)
      obtain ⟨b17, g17⟩ : ∃ z, z = h16.size := ⟨_, rfl⟩
      rw [← g17] at A17 D17 st17
      have ne_b6_b17 : b6 ≠ b17 := Nat.ne_of_lt (Nat.lt_of_lt_of_le (V16_0).lt (Nat.le_of_eq g17.symm))
      have ne_b7_b17 : b7 ≠ b17 := Nat.ne_of_lt (Nat.lt_of_lt_of_le (V16_1).lt (Nat.le_of_eq g17.symm))
      have ne_b16_b17 : b16 ≠ b17 := Nat.ne_of_lt (Nat.lt_of_lt_of_le (V_b16).lt (Nat.le_of_eq g17.symm))
      have g_b17 : n0 ≤ b17 := Nat.le_trans z16 (Nat.le_of_eq g17.symm)
      have V17_0 := V16_0.ext E17
      have V17_1 := V16_1.ext E17
      have V17_2 := V_b16.ext E17
      have z17 : n0 ≤ h17.size := Nat.le_trans z16 E17.1
      have F_documents_b17 : Fld Z h17 b17 "com/example/cranfield/cranfield/index/Postings" "documents" "[I" .null := D17 (Or.inr (hw _ (List.mem_of_getElem? (i := 11) rfl))) (ty := (.array .int)) (by decide)
      have F_frequencies_b17 : Fld Z h17 b17 "com/example/cranfield/cranfield/index/Postings" "frequencies" "[I" .null := D17 (Or.inr (hw _ (List.mem_of_getElem? (i := 13) rfl))) (ty := (.array .int)) (by decide)
      have F_positions_b17 : Fld Z h17 b17 "com/example/cranfield/cranfield/index/Postings" "positions" "[I" .null := D17 (Or.inr (hw _ (List.mem_of_getElem? (i := 15) rfl))) (ty := (.array .int)) (by decide)
      have F_firstPositions_b17 : Fld Z h17 b17 "com/example/cranfield/cranfield/index/Postings" "firstPositions" "[I" .null := D17 (Or.inr (hw _ (List.mem_of_getElem? (i := 17) rfl))) (ty := (.array .int)) (by decide)
      obtain ⟨_, _, ⟨T18, L18, k18, n18⟩, -, X18, ⟨Lc18, hQ18, l18, y18, z18⟩, st18⟩ := X17.specialBack hx (y := (⟨"com/example/cranfield/cranfield/index/Postings", "<init>", "([I[I[I)V"⟩ : MethodName)) rfl hown (mvT hZ (hw _ (List.mem_of_getElem? (i := 4) rfl))) (mvT hZ (hw _ (List.mem_of_getElem? (i := 5) rfl))) (mvT hZ (hw _ (List.mem_of_getElem? (i := 6) rfl))) (by decide) (backOf (W := 1) (rmI0 l Z a0 hw [] b17 b6 b7 b16 k6 k7  h17 n0 z17 A17 g_b17 F_documents_b17 F_frequencies_b17 F_positions_b17 F_firstPositions_b17 V17_0 V17_1 (Ne.symm ne_b6_b17) (Ne.symm ne_b7_b17)) hZ (hw _ (List.mem_of_getElem? (i := 6) rfl)) (hw _ (List.mem_of_getElem? (i := 3) rfl)) (by decide) (by decide)) (g := (mkF m 191 #[.val (.int p1), .val (.int p2), .val (.int p3), .val (.int p4), .val (.int p5), .val (.int p6), .val (.int (0 : Int32)), .val (.int f0), .val (.int f1), .val (.int f2), .val (.ref b6), .val (.ref b7), .val (.int (0 : Int32)), .val (.int (1 : Int32)), .val (.ref b16), .unset, .unset] [(.ref b16), (.ref b7), (.ref b6), (.ref b17), (.ref b17)])) rfl (by rw [hml]; rfl) (Steps.refl _) (a := b17) (argsL := [(.ref b6), (.ref b7), (.ref b16)]) (rest := [(.ref b17)]) (lenOf own_pd0 rfl) rfl (by show 2 * 0 + _ ≤ _; exact Nat.le_of_eq rfl) (hb hby at_191) (fun _ _ => ⟨rfl, e17, (by decide : 4 + 1 ≤ _), (by decide : 4 + 0 ≤ _)⟩)
      dsimp only [Pt.U, Pt.locs, Pt.cells, Pt.slots] at X18 l18 y18 z18 st18 hQ18
      subst l18 y18 z18
      obtain ⟨h18, e18⟩ : ∃ z, T18.heap = z := ⟨_, rfl⟩
      rw [e18] at hQ18
      obtain ⟨rfl, N18q, Kc18, fp18⟩ := hQ18
      have N18 := Fr.app N0 N18q
      have X18_289 := A17.keep Kc18
      have V18_290 := V17_0.keep Kc18 (ninS ne_b6_b17 nin0)
      have V18_291 := V17_1.keep Kc18 (ninS ne_b7_b17 nin0)
      have V18_292 := V17_2.keep Kc18 (ninS ne_b16_b17 nin0)
      have z18 : n0 ≤ h18.size := Nat.le_trans z17 Kc18.1
      obtain ⟨cq19, kq19, q19a, q19b, q19c⟩ := isOf hZ e18 X18_289
      obtain ⟨_, _, ⟨T19, L19, k19, n19⟩, -, X19, ⟨Lc19, hQ19, l19, y19, z19⟩, st19⟩ := X18.virtualBack hx (y := (⟨"com/example/cranfield/cranfield/index/Postings", "positionCount", "()I"⟩ : MethodName)) (z := (⟨"com/example/cranfield/cranfield/index/Postings", "positionCount", "()I"⟩ : MethodName)) hown (mvT hZ (hw _ (List.mem_of_getElem? (i := 18) rfl))) (mvT hZ (hw _ (List.mem_of_getElem? (i := 19) rfl))) (notFace_of_selects (args := #[]) (mvT hZ (hw _ (List.mem_of_getElem? (i := 21) rfl)))) (mvT hZ (hw _ (List.mem_of_getElem? (i := 21) rfl))) (mvT hZ (hw _ (List.mem_of_getElem? (i := 20) rfl))) (by decide) (backOf (W := 0) (rmPr l Z a0 hw [] b17 b16 k16 (0 : Int32) [] [] (.int (0 : Int32)) h18 n0 z18 fp18 V18_292) hZ (hw _ (List.mem_of_getElem? (i := 22) rfl)) (hw _ (List.mem_of_getElem? (i := 3) rfl)) (by decide) (by decide)) q19a q19c (g := (mkF m 198 #[.val (.int p1), .val (.int p2), .val (.int p3), .val (.int p4), .val (.int p5), .val (.int p6), .val (.int (0 : Int32)), .val (.int f0), .val (.int f1), .val (.int f2), .val (.ref b6), .val (.ref b7), .val (.int (0 : Int32)), .val (.int (1 : Int32)), .val (.ref b16), .val (.ref b17), .unset] [(.ref b17)])) rfl (by rw [hml]; rfl) (Steps.refl _) (argsL := []) (rest := []) (lenOf own_pd1 rfl) rfl (by show 2 * 0 + _ ≤ _; exact Nat.le_of_eq rfl) (hb hby at_198) (fun _ _ => ⟨rfl, e18, (by decide : 5 + 0 ≤ _), (by decide : 4 + 0 ≤ _)⟩)
      dsimp only [Pt.U, Pt.locs, Pt.cells, Pt.slots] at X19 l19 y19 z19 st19 hQ19
      subst l19 y19 z19
      obtain ⟨rfl, N19q, e19⟩ := hQ19
      have N19 := Fr.app N18 N19q
      obtain ⟨cq20, kq20, q20a, q20b, q20c⟩ := isOf hZ e19 X18_289
      obtain ⟨_, _, ⟨T20, L20, k20, n20⟩, -, X20, ⟨Lc20, hQ20, l20, y20, z20⟩, st20⟩ := X19.virtualBack hx (y := (⟨"com/example/cranfield/cranfield/index/Postings", "hasPositions", "()Z"⟩ : MethodName)) (z := (⟨"com/example/cranfield/cranfield/index/Postings", "hasPositions", "()Z"⟩ : MethodName)) hown (mvT hZ (hw _ (List.mem_of_getElem? (i := 23) rfl))) (mvT hZ (hw _ (List.mem_of_getElem? (i := 24) rfl))) (notFace_of_selects (args := #[]) (mvT hZ (hw _ (List.mem_of_getElem? (i := 26) rfl)))) (mvT hZ (hw _ (List.mem_of_getElem? (i := 26) rfl))) (mvT hZ (hw _ (List.mem_of_getElem? (i := 25) rfl))) (by decide) (backOf (W := 0) (rmHr l Z a0 hw [] b17 b16 h18 n0 z18 fp18) hZ (hw _ (List.mem_of_getElem? (i := 27) rfl)) (hw _ (List.mem_of_getElem? (i := 3) rfl)) (by decide) (by decide)) q20a q20c (g := (mkF m 205 #[.val (.int p1), .val (.int p2), .val (.int p3), .val (.int p4), .val (.int p5), .val (.int p6), .val (.int (0 : Int32)), .val (.int f0), .val (.int f1), .val (.int f2), .val (.ref b6), .val (.ref b7), .val (.int (0 : Int32)), .val (.int (1 : Int32)), .val (.ref b16), .val (.ref b17), .val (.int (0 : Int32))] [(.ref b17)])) rfl (by rw [hml]; rfl) (Steps.refl _) (argsL := []) (rest := []) (lenOf own_pd2 rfl) rfl (by show 2 * 0 + _ ≤ _; exact Nat.le_of_eq rfl) (hb hby at_205) (fun _ _ => ⟨rfl, e19, (by decide : 5 + 0 ≤ _), (by decide : 4 + 0 ≤ _)⟩)
      dsimp only [Pt.U, Pt.locs, Pt.cells, Pt.slots] at X20 l20 y20 z20 st20 hQ20
      subst l20 y20 z20
      obtain ⟨rfl, N20q, e20⟩ := hQ20
      have N20 := Fr.app N19 N20q
      have pre21 : ∀ t, Steps p.tables e below (T20.setTop (mkF m 232 #[.val (.int p1), .val (.int p2), .val (.int p3), .val (.int p4), .val (.int p5), .val (.int p6), .val (.int (0 : Int32)), .val (.int f0), .val (.int f1), .val (.int f2), .val (.ref b6), .val (.ref b7), .val (.int (0 : Int32)), .val (.int (1 : Int32)), .val (.ref b16), .val (.ref b17), .val (.int (0 : Int32))] [(.int (1 : Int32))])) t → Steps p.tables e below (s₁.setTop (entryFrame m #[(.int p1), (.int p2), (.int p3), (.int p4), (.int p5), (.int p6)] maxLocals)) t := fun t k => pre10 t (by
        show Steps p.tables e below (T7.setTop (mkF m 131 #[.val (.int p1), .val (.int p2), .val (.int p3), .val (.int p4), .val (.int p5), .val (.int p6), .val (.int (0 : Int32)), .val (.int f0), .val (.int f1), .val (.int f2), .val (.ref b6), .val (.ref b7), .val (.int (0 : Int32)), .unset, .unset, .unset, .unset] [(.int (p6 &&& (1 : Int32)))])) _
        refine XS.ifNo X7.here hx rfl (hb hby at_131) rfl ((if0 _ _).trans (feq ((own_ne0 hp) : ¬ ((p6 &&& (1 : Int32)) = (0 : Int32)))).1) ?_
        show Steps p.tables e below (T7.setTop (mkF m 134 #[.val (.int p1), .val (.int p2), .val (.int p3), .val (.int p4), .val (.int p5), .val (.int p6), .val (.int (0 : Int32)), .val (.int f0), .val (.int f1), .val (.int f2), .val (.ref b6), .val (.ref b7), .val (.int (0 : Int32)), .unset, .unset, .unset, .unset] [])) _
        refine XS.iconst X7.here hx rfl (hb hby at_134) ?_
        show Steps p.tables e below (T7.setTop (mkF m 135 #[.val (.int p1), .val (.int p2), .val (.int p3), .val (.int p4), .val (.int p5), .val (.int p6), .val (.int (0 : Int32)), .val (.int f0), .val (.int f1), .val (.int f2), .val (.ref b6), .val (.ref b7), .val (.int (0 : Int32)), .unset, .unset, .unset, .unset] [(.int (1 : Int32))])) _
        refine XS.goto X7.here hx rfl (pc0 := 135) (pc' := 139) rfl (hb hby at_135) (by decide) (by decide) ?_
        show Steps p.tables e below (T7.setTop (mkF m 139 #[.val (.int p1), .val (.int p2), .val (.int p3), .val (.int p4), .val (.int p5), .val (.int p6), .val (.int (0 : Int32)), .val (.int f0), .val (.int f1), .val (.int f2), .val (.ref b6), .val (.ref b7), .val (.int (0 : Int32)), .unset, .unset, .unset, .unset] [(.int (1 : Int32))])) _
        refine XS.istore X7.here hx rfl (hb hby at_139) rfl (l' := #[.val (.int p1), .val (.int p2), .val (.int p3), .val (.int p4), .val (.int p5), .val (.int p6), .val (.int (0 : Int32)), .val (.int f0), .val (.int f1), .val (.int f2), .val (.ref b6), .val (.ref b7), .val (.int (0 : Int32)), .val (.int (1 : Int32)), .unset, .unset, .unset]) rfl ?_
        show Steps p.tables e below (T7.setTop (mkF m 141 #[.val (.int p1), .val (.int p2), .val (.int p3), .val (.int p4), .val (.int p5), .val (.int p6), .val (.int (0 : Int32)), .val (.int f0), .val (.int f1), .val (.int f2), .val (.ref b6), .val (.ref b7), .val (.int (0 : Int32)), .val (.int (1 : Int32)), .unset, .unset, .unset] [])) _
        refine XS.aconstNull X7.here hx rfl (hb hby at_141) ?_
        show Steps p.tables e below (T7.setTop (mkF m 142 #[.val (.int p1), .val (.int p2), .val (.int p3), .val (.int p4), .val (.int p5), .val (.int p6), .val (.int (0 : Int32)), .val (.int f0), .val (.int f1), .val (.int f2), .val (.ref b6), .val (.ref b7), .val (.int (0 : Int32)), .val (.int (1 : Int32)), .unset, .unset, .unset] [.null])) _
        refine XS.astore X7.here hx rfl (hb hby at_142) rfl rfl (l' := #[.val (.int p1), .val (.int p2), .val (.int p3), .val (.int p4), .val (.int p5), .val (.int p6), .val (.int (0 : Int32)), .val (.int f0), .val (.int f1), .val (.int f2), .val (.ref b6), .val (.ref b7), .val (.int (0 : Int32)), .val (.int (1 : Int32)), .val .null, .unset, .unset]) rfl ?_
        show Steps p.tables e below (T7.setTop (mkF m 144 #[.val (.int p1), .val (.int p2), .val (.int p3), .val (.int p4), .val (.int p5), .val (.int p6), .val (.int (0 : Int32)), .val (.int f0), .val (.int f1), .val (.int f2), .val (.ref b6), .val (.ref b7), .val (.int (0 : Int32)), .val (.int (1 : Int32)), .val .null, .unset, .unset] [])) _
        refine XS.iload X7.here hx rfl (hb hby at_144) rfl ?_
        show Steps p.tables e below (T7.setTop (mkF m 146 #[.val (.int p1), .val (.int p2), .val (.int p3), .val (.int p4), .val (.int p5), .val (.int p6), .val (.int (0 : Int32)), .val (.int f0), .val (.int f1), .val (.int f2), .val (.ref b6), .val (.ref b7), .val (.int (0 : Int32)), .val (.int (1 : Int32)), .val .null, .unset, .unset] [(.int (1 : Int32))])) _
        refine XS.ifNo X7.here hx rfl (hb hby at_146) rfl ((if0 _ _).trans (feq ((by decide) : ¬ ((1 : Int32) = (0 : Int32)))).1) ?_
        show Steps p.tables e below (T7.setTop (mkF m 149 #[.val (.int p1), .val (.int p2), .val (.int p3), .val (.int p4), .val (.int p5), .val (.int p6), .val (.int (0 : Int32)), .val (.int f0), .val (.int f1), .val (.int f2), .val (.ref b6), .val (.ref b7), .val (.int (0 : Int32)), .val (.int (1 : Int32)), .val .null, .unset, .unset] [])) _
        refine XS.iload X7.here hx rfl (hb hby at_149) rfl ?_
        show Steps p.tables e below (T7.setTop (mkF m 151 #[.val (.int p1), .val (.int p2), .val (.int p3), .val (.int p4), .val (.int p5), .val (.int p6), .val (.int (0 : Int32)), .val (.int f0), .val (.int f1), .val (.int f2), .val (.ref b6), .val (.ref b7), .val (.int (0 : Int32)), .val (.int (1 : Int32)), .val .null, .unset, .unset] [(.int (0 : Int32))])) _
        refine st16 _ ?_
        show Steps p.tables e below (T16.setTop (mkF m 153 #[.val (.int p1), .val (.int p2), .val (.int p3), .val (.int p4), .val (.int p5), .val (.int p6), .val (.int (0 : Int32)), .val (.int f0), .val (.int f1), .val (.int f2), .val (.ref b6), .val (.ref b7), .val (.int (0 : Int32)), .val (.int (1 : Int32)), .val .null, .unset, .unset] [(.ref b16)])) _
        refine XS.astore X16.here hx rfl (hb hby at_153) rfl rfl (l' := #[.val (.int p1), .val (.int p2), .val (.int p3), .val (.int p4), .val (.int p5), .val (.int p6), .val (.int (0 : Int32)), .val (.int f0), .val (.int f1), .val (.int f2), .val (.ref b6), .val (.ref b7), .val (.int (0 : Int32)), .val (.int (1 : Int32)), .val (.ref b16), .unset, .unset]) rfl ?_
        show Steps p.tables e below (T16.setTop (mkF m 155 #[.val (.int p1), .val (.int p2), .val (.int p3), .val (.int p4), .val (.int p5), .val (.int p6), .val (.int (0 : Int32)), .val (.int f0), .val (.int f1), .val (.int f2), .val (.ref b6), .val (.ref b7), .val (.int (0 : Int32)), .val (.int (1 : Int32)), .val (.ref b16), .unset, .unset] [])) _
        refine XS.iload X16.here hx rfl (hb hby at_155) rfl ?_
        show Steps p.tables e below (T16.setTop (mkF m 157 #[.val (.int p1), .val (.int p2), .val (.int p3), .val (.int p4), .val (.int p5), .val (.int p6), .val (.int (0 : Int32)), .val (.int f0), .val (.int f1), .val (.int f2), .val (.ref b6), .val (.ref b7), .val (.int (0 : Int32)), .val (.int (1 : Int32)), .val (.ref b16), .unset, .unset] [(.int (0 : Int32))])) _
        refine XS.ifYes X16.here hx rfl (pc0 := 157) (pc' := 166) rfl (hb hby at_157) rfl ((if0 _ _).trans (flt ((by decide) : ¬ ((0 : Int32) < (0 : Int32)))).2.2.2) (by decide) (by decide) ?_
        show Steps p.tables e below (T16.setTop (mkF m 166 #[.val (.int p1), .val (.int p2), .val (.int p3), .val (.int p4), .val (.int p5), .val (.int p6), .val (.int (0 : Int32)), .val (.int f0), .val (.int f1), .val (.int f2), .val (.ref b6), .val (.ref b7), .val (.int (0 : Int32)), .val (.int (1 : Int32)), .val (.ref b16), .unset, .unset] [])) _
        refine XS.iload X16.here hx rfl (hb hby at_166) rfl ?_
        show Steps p.tables e below (T16.setTop (mkF m 168 #[.val (.int p1), .val (.int p2), .val (.int p3), .val (.int p4), .val (.int p5), .val (.int p6), .val (.int (0 : Int32)), .val (.int f0), .val (.int f1), .val (.int f2), .val (.ref b6), .val (.ref b7), .val (.int (0 : Int32)), .val (.int (1 : Int32)), .val (.ref b16), .unset, .unset] [(.int (0 : Int32))])) _
        refine XS.iconst X16.here hx rfl (hb hby at_168) ?_
        show Steps p.tables e below (T16.setTop (mkF m 169 #[.val (.int p1), .val (.int p2), .val (.int p3), .val (.int p4), .val (.int p5), .val (.int p6), .val (.int (0 : Int32)), .val (.int f0), .val (.int f1), .val (.int f2), .val (.ref b6), .val (.ref b7), .val (.int (0 : Int32)), .val (.int (1 : Int32)), .val (.ref b16), .unset, .unset] [(.int (1 : Int32)), (.int (0 : Int32))])) _
        refine XS.icmpYes X16.here hx rfl (pc0 := 169) (pc' := 181) rfl (hb hby at_169) rfl (flt ((by decide) : ¬ ((1 : Int32) < (0 : Int32)))).2.2.2 (by decide) (by decide) ?_
        show Steps p.tables e below (T16.setTop (mkF m 181 #[.val (.int p1), .val (.int p2), .val (.int p3), .val (.int p4), .val (.int p5), .val (.int p6), .val (.int (0 : Int32)), .val (.int f0), .val (.int f1), .val (.int f2), .val (.ref b6), .val (.ref b7), .val (.int (0 : Int32)), .val (.int (1 : Int32)), .val (.ref b16), .unset, .unset] [])) _
        refine st17 _ ?_
        show Steps p.tables e below (T17.setTop (mkF m 184 #[.val (.int p1), .val (.int p2), .val (.int p3), .val (.int p4), .val (.int p5), .val (.int p6), .val (.int (0 : Int32)), .val (.int f0), .val (.int f1), .val (.int f2), .val (.ref b6), .val (.ref b7), .val (.int (0 : Int32)), .val (.int (1 : Int32)), .val (.ref b16), .unset, .unset] [(.ref b17)])) _
        refine XS.dup X17.here hx rfl (hb hby at_184) rfl rfl ?_
        show Steps p.tables e below (T17.setTop (mkF m 185 #[.val (.int p1), .val (.int p2), .val (.int p3), .val (.int p4), .val (.int p5), .val (.int p6), .val (.int (0 : Int32)), .val (.int f0), .val (.int f1), .val (.int f2), .val (.ref b6), .val (.ref b7), .val (.int (0 : Int32)), .val (.int (1 : Int32)), .val (.ref b16), .unset, .unset] [(.ref b17), (.ref b17)])) _
        refine XS.aload X17.here hx rfl (hb hby at_185) rfl rfl ?_
        show Steps p.tables e below (T17.setTop (mkF m 187 #[.val (.int p1), .val (.int p2), .val (.int p3), .val (.int p4), .val (.int p5), .val (.int p6), .val (.int (0 : Int32)), .val (.int f0), .val (.int f1), .val (.int f2), .val (.ref b6), .val (.ref b7), .val (.int (0 : Int32)), .val (.int (1 : Int32)), .val (.ref b16), .unset, .unset] [(.ref b6), (.ref b17), (.ref b17)])) _
        refine XS.aload X17.here hx rfl (hb hby at_187) rfl rfl ?_
        show Steps p.tables e below (T17.setTop (mkF m 189 #[.val (.int p1), .val (.int p2), .val (.int p3), .val (.int p4), .val (.int p5), .val (.int p6), .val (.int (0 : Int32)), .val (.int f0), .val (.int f1), .val (.int f2), .val (.ref b6), .val (.ref b7), .val (.int (0 : Int32)), .val (.int (1 : Int32)), .val (.ref b16), .unset, .unset] [(.ref b7), (.ref b6), (.ref b17), (.ref b17)])) _
        refine XS.aload X17.here hx rfl (hb hby at_189) rfl rfl ?_
        show Steps p.tables e below (T17.setTop (mkF m 191 #[.val (.int p1), .val (.int p2), .val (.int p3), .val (.int p4), .val (.int p5), .val (.int p6), .val (.int (0 : Int32)), .val (.int f0), .val (.int f1), .val (.int f2), .val (.ref b6), .val (.ref b7), .val (.int (0 : Int32)), .val (.int (1 : Int32)), .val (.ref b16), .unset, .unset] [(.ref b16), (.ref b7), (.ref b6), (.ref b17), (.ref b17)])) _
        refine st18.trans ?_
        show Steps p.tables e below (T18.setTop (mkF m 194 #[.val (.int p1), .val (.int p2), .val (.int p3), .val (.int p4), .val (.int p5), .val (.int p6), .val (.int (0 : Int32)), .val (.int f0), .val (.int f1), .val (.int f2), .val (.ref b6), .val (.ref b7), .val (.int (0 : Int32)), .val (.int (1 : Int32)), .val (.ref b16), .unset, .unset] [(.ref b17)])) _
        refine XS.astore X18.here hx rfl (hb hby at_194) rfl rfl (l' := #[.val (.int p1), .val (.int p2), .val (.int p3), .val (.int p4), .val (.int p5), .val (.int p6), .val (.int (0 : Int32)), .val (.int f0), .val (.int f1), .val (.int f2), .val (.ref b6), .val (.ref b7), .val (.int (0 : Int32)), .val (.int (1 : Int32)), .val (.ref b16), .val (.ref b17), .unset]) rfl ?_
        show Steps p.tables e below (T18.setTop (mkF m 196 #[.val (.int p1), .val (.int p2), .val (.int p3), .val (.int p4), .val (.int p5), .val (.int p6), .val (.int (0 : Int32)), .val (.int f0), .val (.int f1), .val (.int f2), .val (.ref b6), .val (.ref b7), .val (.int (0 : Int32)), .val (.int (1 : Int32)), .val (.ref b16), .val (.ref b17), .unset] [])) _
        refine XS.aload X18.here hx rfl (hb hby at_196) rfl rfl ?_
        show Steps p.tables e below (T18.setTop (mkF m 198 #[.val (.int p1), .val (.int p2), .val (.int p3), .val (.int p4), .val (.int p5), .val (.int p6), .val (.int (0 : Int32)), .val (.int f0), .val (.int f1), .val (.int f2), .val (.ref b6), .val (.ref b7), .val (.int (0 : Int32)), .val (.int (1 : Int32)), .val (.ref b16), .val (.ref b17), .unset] [(.ref b17)])) _
        refine st19.trans ?_
        show Steps p.tables e below (T19.setTop (mkF m 201 #[.val (.int p1), .val (.int p2), .val (.int p3), .val (.int p4), .val (.int p5), .val (.int p6), .val (.int (0 : Int32)), .val (.int f0), .val (.int f1), .val (.int f2), .val (.ref b6), .val (.ref b7), .val (.int (0 : Int32)), .val (.int (1 : Int32)), .val (.ref b16), .val (.ref b17), .unset] [(.int (0 : Int32))])) _
        refine XS.istore X19.here hx rfl (hb hby at_201) rfl (l' := #[.val (.int p1), .val (.int p2), .val (.int p3), .val (.int p4), .val (.int p5), .val (.int p6), .val (.int (0 : Int32)), .val (.int f0), .val (.int f1), .val (.int f2), .val (.ref b6), .val (.ref b7), .val (.int (0 : Int32)), .val (.int (1 : Int32)), .val (.ref b16), .val (.ref b17), .val (.int (0 : Int32))]) rfl ?_
        show Steps p.tables e below (T19.setTop (mkF m 203 #[.val (.int p1), .val (.int p2), .val (.int p3), .val (.int p4), .val (.int p5), .val (.int p6), .val (.int (0 : Int32)), .val (.int f0), .val (.int f1), .val (.int f2), .val (.ref b6), .val (.ref b7), .val (.int (0 : Int32)), .val (.int (1 : Int32)), .val (.ref b16), .val (.ref b17), .val (.int (0 : Int32))] [])) _
        refine XS.aload X19.here hx rfl (hb hby at_203) rfl rfl ?_
        show Steps p.tables e below (T19.setTop (mkF m 205 #[.val (.int p1), .val (.int p2), .val (.int p3), .val (.int p4), .val (.int p5), .val (.int p6), .val (.int (0 : Int32)), .val (.int f0), .val (.int f1), .val (.int f2), .val (.ref b6), .val (.ref b7), .val (.int (0 : Int32)), .val (.int (1 : Int32)), .val (.ref b16), .val (.ref b17), .val (.int (0 : Int32))] [(.ref b17)])) _
        refine st20.trans ?_
        show Steps p.tables e below (T20.setTop (mkF m 208 #[.val (.int p1), .val (.int p2), .val (.int p3), .val (.int p4), .val (.int p5), .val (.int p6), .val (.int (0 : Int32)), .val (.int f0), .val (.int f1), .val (.int f2), .val (.ref b6), .val (.ref b7), .val (.int (0 : Int32)), .val (.int (1 : Int32)), .val (.ref b16), .val (.ref b17), .val (.int (0 : Int32))] [(.int (1 : Int32))])) _
        refine XS.iload X20.here hx rfl (hb hby at_208) rfl ?_
        show Steps p.tables e below (T20.setTop (mkF m 210 #[.val (.int p1), .val (.int p2), .val (.int p3), .val (.int p4), .val (.int p5), .val (.int p6), .val (.int (0 : Int32)), .val (.int f0), .val (.int f1), .val (.int f2), .val (.ref b6), .val (.ref b7), .val (.int (0 : Int32)), .val (.int (1 : Int32)), .val (.ref b16), .val (.ref b17), .val (.int (0 : Int32))] [(.int (1 : Int32)), (.int (1 : Int32))])) _
        refine XS.icmpYes X20.here hx rfl (pc0 := 210) (pc' := 215) rfl (hb hby at_210) rfl (teq ((by decide) : (1 : Int32) = (1 : Int32))).1 (by decide) (by decide) ?_
        show Steps p.tables e below (T20.setTop (mkF m 215 #[.val (.int p1), .val (.int p2), .val (.int p3), .val (.int p4), .val (.int p5), .val (.int p6), .val (.int (0 : Int32)), .val (.int f0), .val (.int f1), .val (.int f2), .val (.ref b6), .val (.ref b7), .val (.int (0 : Int32)), .val (.int (1 : Int32)), .val (.ref b16), .val (.ref b17), .val (.int (0 : Int32))] [])) _
        refine XS.iload X20.here hx rfl (hb hby at_215) rfl ?_
        show Steps p.tables e below (T20.setTop (mkF m 217 #[.val (.int p1), .val (.int p2), .val (.int p3), .val (.int p4), .val (.int p5), .val (.int p6), .val (.int (0 : Int32)), .val (.int f0), .val (.int f1), .val (.int f2), .val (.ref b6), .val (.ref b7), .val (.int (0 : Int32)), .val (.int (1 : Int32)), .val (.ref b16), .val (.ref b17), .val (.int (0 : Int32))] [(.int (1 : Int32))])) _
        refine XS.ifNo X20.here hx rfl (hb hby at_217) rfl ((if0 _ _).trans (feq ((by decide) : ¬ ((1 : Int32) = (0 : Int32)))).1) ?_
        show Steps p.tables e below (T20.setTop (mkF m 220 #[.val (.int p1), .val (.int p2), .val (.int p3), .val (.int p4), .val (.int p5), .val (.int p6), .val (.int (0 : Int32)), .val (.int f0), .val (.int f1), .val (.int f2), .val (.ref b6), .val (.ref b7), .val (.int (0 : Int32)), .val (.int (1 : Int32)), .val (.ref b16), .val (.ref b17), .val (.int (0 : Int32))] [])) _
        refine XS.iload X20.here hx rfl (hb hby at_220) rfl ?_
        show Steps p.tables e below (T20.setTop (mkF m 222 #[.val (.int p1), .val (.int p2), .val (.int p3), .val (.int p4), .val (.int p5), .val (.int p6), .val (.int (0 : Int32)), .val (.int f0), .val (.int f1), .val (.int f2), .val (.ref b6), .val (.ref b7), .val (.int (0 : Int32)), .val (.int (1 : Int32)), .val (.ref b16), .val (.ref b17), .val (.int (0 : Int32))] [(.int (0 : Int32))])) _
        refine XS.iload X20.here hx rfl (hb hby at_222) rfl ?_
        show Steps p.tables e below (T20.setTop (mkF m 224 #[.val (.int p1), .val (.int p2), .val (.int p3), .val (.int p4), .val (.int p5), .val (.int p6), .val (.int (0 : Int32)), .val (.int f0), .val (.int f1), .val (.int f2), .val (.ref b6), .val (.ref b7), .val (.int (0 : Int32)), .val (.int (1 : Int32)), .val (.ref b16), .val (.ref b17), .val (.int (0 : Int32))] [(.int (0 : Int32)), (.int (0 : Int32))])) _
        refine XS.icmpNo X20.here hx rfl (hb hby at_224) rfl (teq (rfl : (0 : Int32) = (0 : Int32))).2 ?_
        show Steps p.tables e below (T20.setTop (mkF m 227 #[.val (.int p1), .val (.int p2), .val (.int p3), .val (.int p4), .val (.int p5), .val (.int p6), .val (.int (0 : Int32)), .val (.int f0), .val (.int f1), .val (.int f2), .val (.ref b6), .val (.ref b7), .val (.int (0 : Int32)), .val (.int (1 : Int32)), .val (.ref b16), .val (.ref b17), .val (.int (0 : Int32))] [])) _
        refine XS.iconst X20.here hx rfl (hb hby at_227) ?_
        show Steps p.tables e below (T20.setTop (mkF m 228 #[.val (.int p1), .val (.int p2), .val (.int p3), .val (.int p4), .val (.int p5), .val (.int p6), .val (.int (0 : Int32)), .val (.int f0), .val (.int f1), .val (.int f2), .val (.ref b6), .val (.ref b7), .val (.int (0 : Int32)), .val (.int (1 : Int32)), .val (.ref b16), .val (.ref b17), .val (.int (0 : Int32))] [(.int (1 : Int32))])) _
        refine XS.goto X20.here hx rfl (pc0 := 228) (pc' := 232) rfl (hb hby at_228) (by decide) (by decide) ?_
        exact k)
      obtain ⟨fs, hr, hrun, hended, hW, hsame⟩ := X20.leave (v := some (.int (nar .boolean (1 : Int32)))) (fun h => by rw [Bd.returns] at h; cases h)
      refine ⟨_, _, pre21 _ ?_, hrun, hended, _, _, rfl, ?_, ⟨_, rfl⟩, hW, hsame.mono (by decide) (by decide)⟩
      · show Steps p.tables e below (T20.setTop (mkF m 232 #[.val (.int p1), .val (.int p2), .val (.int p3), .val (.int p4), .val (.int p5), .val (.int p6), .val (.int (0 : Int32)), .val (.int f0), .val (.int f1), .val (.int f2), .val (.ref b6), .val (.ref b7), .val (.int (0 : Int32)), .val (.int (1 : Int32)), .val (.ref b16), .val (.ref b17), .val (.int (0 : Int32))] [(.int (1 : Int32))])) _
        exact retN X20 hx (t := .boolean) Bd.returns (by simp) (hb hby at_232) hr
      · show QL n0 _ T20.heap _
        rw [e20]
        exact ⟨rfl, N20⟩
  · subst hn4
    obtain ⟨T22, h22, k22, X22, e22, E22, A22, st22⟩ := newP X0 hx hZ (hw _ (List.mem_of_getElem? (i := 0) rfl)) e0 (g := (mkF m 28 #[.val (.int p1), .val (.int p2), .val (.int p3), .val (.int p4), .val (.int p5), .val (.int p6), .val (.int (1 : Int32)), .val (.int f0), .val (.int f1), .val (.int f2), .unset, .unset, .unset, .unset, .unset, .unset, .unset] [(.int (1 : Int32))])) rfl (hb hby at_28) rfl (by decide) (cap := 1) (by decide) (by decide) (by decide) (by decide)
    obtain ⟨b22, g22⟩ : ∃ z, z = h0.size := ⟨_, rfl⟩
    rw [← g22] at A22 st22
    have g_b22 : n0 ≤ b22 := Nat.le_trans Z0 (Nat.le_of_eq g22.symm)
    have z22 : n0 ≤ h22.size := Nat.le_trans Z0 E22.1
    have V_b22 : Arv Z h22 b22 k22 .int (1 : Int32) [(.int (0 : Int32))] (.int (0 : Int32)) := (Arv.new A22 (by decide)).pad (pad_rep [] (.int (0 : Int32)) 1)
    obtain ⟨T23, h23, k23, X23, e23, E23, A23, st23⟩ := newP X22 hx hZ (hw _ (List.mem_of_getElem? (i := 0) rfl)) e22 (g := (mkF m 34 #[.val (.int p1), .val (.int p2), .val (.int p3), .val (.int p4), .val (.int p5), .val (.int p6), .val (.int (1 : Int32)), .val (.int f0), .val (.int f1), .val (.int f2), .val (.ref b22), .unset, .unset, .unset, .unset, .unset, .unset] [(.int (1 : Int32))])) rfl (hb hby at_34) rfl (by decide) (cap := 1) (by decide) (by decide) (by decide) (by decide)
    obtain ⟨b23, g23⟩ : ∃ z, z = h22.size := ⟨_, rfl⟩
    rw [← g23] at A23 st23
    have ne_b22_b23 : b22 ≠ b23 := Nat.ne_of_lt (Nat.lt_of_lt_of_le (V_b22).lt (Nat.le_of_eq g23.symm))
    have g_b23 : n0 ≤ b23 := Nat.le_trans z22 (Nat.le_of_eq g23.symm)
    have V23_0 := V_b22.ext E23
    have z23 : n0 ≤ h23.size := Nat.le_trans z22 E23.1
    have V_b23 : Arv Z h23 b23 k23 .int (1 : Int32) [(.int (0 : Int32))] (.int (0 : Int32)) := (Arv.new A23 (by decide)).pad (pad_rep [] (.int (0 : Int32)) 1)
    obtain ⟨cl24, Ar24, q24, S24, M24, H24, G24⟩ := id V23_0
    have hin24 : ¬ ((0 : Int32) < 0 ∨ cl24.slots.size ≤ ((0 : Int32)).toNatClampNeg) := inb_of S24 ⟨by decide, by decide⟩
    obtain ⟨T25, h25, X25, e25, W25, st25⟩ := stI X23 hx hZ e23 Ar24 (j := (0 : Int32)) hin24 (g := (mkF m 47 #[.val (.int p1), .val (.int p2), .val (.int p3), .val (.int p4), .val (.int p5), .val (.int p6), .val (.int (1 : Int32)), .val (.int f0), .val (.int f1), .val (.int f2), .val (.ref b22), .val (.ref b23), .unset, .unset, .unset, .unset, .unset] [(.int (1 : Int32)), (.int (0 : Int32)), (.ref b22)])) rfl rfl (hb hby at_47)
    have V_b22_25 : Arv Z h25 b22 k22 .int (1 : Int32) [(.int (1 : Int32))] (.int (0 : Int32)) := Arv.set Ar24 q24 S24 M24 H24 G24 rfl W25 0 rfl (Nat.le_of_ble_eq_true rfl)
    have V25_1 := V_b23.other W25 (Ne.symm ne_b22_b23)
    have z25 : n0 ≤ h25.size := by rw [W25.size]; exact z23
    have N25 := Fr.snoc X25 N0 g_b22
    obtain ⟨cl26, Ar26, q26, S26, M26, H26, G26⟩ := id V25_1
    have hin26 : ¬ ((0 : Int32) < 0 ∨ cl26.slots.size ≤ ((0 : Int32)).toNatClampNeg) := inb_of S26 ⟨by decide, by decide⟩
    obtain ⟨T27, h27, X27, e27, W27, st27⟩ := stI X25 hx hZ e25 Ar26 (j := (0 : Int32)) hin26 (g := (mkF m 53 #[.val (.int p1), .val (.int p2), .val (.int p3), .val (.int p4), .val (.int p5), .val (.int p6), .val (.int (1 : Int32)), .val (.int f0), .val (.int f1), .val (.int f2), .val (.ref b22), .val (.ref b23), .unset, .unset, .unset, .unset, .unset] [(.int f0), (.int (0 : Int32)), (.ref b23)])) rfl rfl (hb hby at_53)
    have V_b23_27 : Arv Z h27 b23 k23 .int (1 : Int32) [(.int f0)] (.int (0 : Int32)) := Arv.set Ar26 q26 S26 M26 H26 G26 rfl W27 0 rfl (Nat.le_of_ble_eq_true rfl)
    have V27_0 := V_b22_25.other W27 ne_b22_b23
    have z27 : n0 ≤ h27.size := by rw [W27.size]; exact z25
    have N27 := Fr.snoc X27 N25 g_b23
    have htot := own_tot1 hf0 hf1 hf2
    have pre28 : ∀ t, Steps p.tables e below (T27.setTop (mkF m 125 #[.val (.int p1), .val (.int p2), .val (.int p3), .val (.int p4), .val (.int p5), .val (.int p6), .val (.int (1 : Int32)), .val (.int f0), .val (.int f1), .val (.int f2), .val (.ref b22), .val (.ref b23), .unset, .unset, .unset, .unset, .unset] [(.int ((f0 + (0 : Int32)) + (0 : Int32)))])) t → Steps p.tables e below (s₁.setTop (entryFrame m #[(.int p1), (.int p2), (.int p3), (.int p4), (.int p5), (.int p6)] maxLocals)) t := fun t k => pre5 t (by
      show Steps p.tables e below (s₁.setTop (mkF m 28 #[.val (.int p1), .val (.int p2), .val (.int p3), .val (.int p4), .val (.int p5), .val (.int p6), .val (.int (1 : Int32)), .val (.int f0), .val (.int f1), .val (.int f2), .unset, .unset, .unset, .unset, .unset, .unset, .unset] [(.int (1 : Int32))])) _
      refine st22 _ ?_
      show Steps p.tables e below (T22.setTop (mkF m 30 #[.val (.int p1), .val (.int p2), .val (.int p3), .val (.int p4), .val (.int p5), .val (.int p6), .val (.int (1 : Int32)), .val (.int f0), .val (.int f1), .val (.int f2), .unset, .unset, .unset, .unset, .unset, .unset, .unset] [(.ref b22)])) _
      refine XS.astore X22.here hx rfl (hb hby at_30) rfl rfl (l' := #[.val (.int p1), .val (.int p2), .val (.int p3), .val (.int p4), .val (.int p5), .val (.int p6), .val (.int (1 : Int32)), .val (.int f0), .val (.int f1), .val (.int f2), .val (.ref b22), .unset, .unset, .unset, .unset, .unset, .unset]) rfl ?_
      show Steps p.tables e below (T22.setTop (mkF m 32 #[.val (.int p1), .val (.int p2), .val (.int p3), .val (.int p4), .val (.int p5), .val (.int p6), .val (.int (1 : Int32)), .val (.int f0), .val (.int f1), .val (.int f2), .val (.ref b22), .unset, .unset, .unset, .unset, .unset, .unset] [])) _
      refine XS.iload X22.here hx rfl (hb hby at_32) rfl ?_
      show Steps p.tables e below (T22.setTop (mkF m 34 #[.val (.int p1), .val (.int p2), .val (.int p3), .val (.int p4), .val (.int p5), .val (.int p6), .val (.int (1 : Int32)), .val (.int f0), .val (.int f1), .val (.int f2), .val (.ref b22), .unset, .unset, .unset, .unset, .unset, .unset] [(.int (1 : Int32))])) _
      refine st23 _ ?_
      show Steps p.tables e below (T23.setTop (mkF m 36 #[.val (.int p1), .val (.int p2), .val (.int p3), .val (.int p4), .val (.int p5), .val (.int p6), .val (.int (1 : Int32)), .val (.int f0), .val (.int f1), .val (.int f2), .val (.ref b22), .unset, .unset, .unset, .unset, .unset, .unset] [(.ref b23)])) _
      refine XS.astore X23.here hx rfl (hb hby at_36) rfl rfl (l' := #[.val (.int p1), .val (.int p2), .val (.int p3), .val (.int p4), .val (.int p5), .val (.int p6), .val (.int (1 : Int32)), .val (.int f0), .val (.int f1), .val (.int f2), .val (.ref b22), .val (.ref b23), .unset, .unset, .unset, .unset, .unset]) rfl ?_
      show Steps p.tables e below (T23.setTop (mkF m 38 #[.val (.int p1), .val (.int p2), .val (.int p3), .val (.int p4), .val (.int p5), .val (.int p6), .val (.int (1 : Int32)), .val (.int f0), .val (.int f1), .val (.int f2), .val (.ref b22), .val (.ref b23), .unset, .unset, .unset, .unset, .unset] [])) _
      refine XS.iload X23.here hx rfl (hb hby at_38) rfl ?_
      show Steps p.tables e below (T23.setTop (mkF m 40 #[.val (.int p1), .val (.int p2), .val (.int p3), .val (.int p4), .val (.int p5), .val (.int p6), .val (.int (1 : Int32)), .val (.int f0), .val (.int f1), .val (.int f2), .val (.ref b22), .val (.ref b23), .unset, .unset, .unset, .unset, .unset] [(.int (1 : Int32))])) _
      refine XS.ifNo X23.here hx rfl (hb hby at_40) rfl ((if0 _ _).trans (tlt ((by decide) : (0 : Int32) < (1 : Int32))).2.2.2) ?_
      show Steps p.tables e below (T23.setTop (mkF m 43 #[.val (.int p1), .val (.int p2), .val (.int p3), .val (.int p4), .val (.int p5), .val (.int p6), .val (.int (1 : Int32)), .val (.int f0), .val (.int f1), .val (.int f2), .val (.ref b22), .val (.ref b23), .unset, .unset, .unset, .unset, .unset] [])) _
      refine XS.aload X23.here hx rfl (hb hby at_43) rfl rfl ?_
      show Steps p.tables e below (T23.setTop (mkF m 45 #[.val (.int p1), .val (.int p2), .val (.int p3), .val (.int p4), .val (.int p5), .val (.int p6), .val (.int (1 : Int32)), .val (.int f0), .val (.int f1), .val (.int f2), .val (.ref b22), .val (.ref b23), .unset, .unset, .unset, .unset, .unset] [(.ref b22)])) _
      refine XS.iconst X23.here hx rfl (hb hby at_45) ?_
      show Steps p.tables e below (T23.setTop (mkF m 46 #[.val (.int p1), .val (.int p2), .val (.int p3), .val (.int p4), .val (.int p5), .val (.int p6), .val (.int (1 : Int32)), .val (.int f0), .val (.int f1), .val (.int f2), .val (.ref b22), .val (.ref b23), .unset, .unset, .unset, .unset, .unset] [(.int (0 : Int32)), (.ref b22)])) _
      refine XS.iconst X23.here hx rfl (hb hby at_46) ?_
      show Steps p.tables e below (T23.setTop (mkF m 47 #[.val (.int p1), .val (.int p2), .val (.int p3), .val (.int p4), .val (.int p5), .val (.int p6), .val (.int (1 : Int32)), .val (.int f0), .val (.int f1), .val (.int f2), .val (.ref b22), .val (.ref b23), .unset, .unset, .unset, .unset, .unset] [(.int (1 : Int32)), (.int (0 : Int32)), (.ref b22)])) _
      refine st25 _ ?_
      show Steps p.tables e below (T25.setTop (mkF m 48 #[.val (.int p1), .val (.int p2), .val (.int p3), .val (.int p4), .val (.int p5), .val (.int p6), .val (.int (1 : Int32)), .val (.int f0), .val (.int f1), .val (.int f2), .val (.ref b22), .val (.ref b23), .unset, .unset, .unset, .unset, .unset] [])) _
      refine XS.aload X25.here hx rfl (hb hby at_48) rfl rfl ?_
      show Steps p.tables e below (T25.setTop (mkF m 50 #[.val (.int p1), .val (.int p2), .val (.int p3), .val (.int p4), .val (.int p5), .val (.int p6), .val (.int (1 : Int32)), .val (.int f0), .val (.int f1), .val (.int f2), .val (.ref b22), .val (.ref b23), .unset, .unset, .unset, .unset, .unset] [(.ref b23)])) _
      refine XS.iconst X25.here hx rfl (hb hby at_50) ?_
      show Steps p.tables e below (T25.setTop (mkF m 51 #[.val (.int p1), .val (.int p2), .val (.int p3), .val (.int p4), .val (.int p5), .val (.int p6), .val (.int (1 : Int32)), .val (.int f0), .val (.int f1), .val (.int f2), .val (.ref b22), .val (.ref b23), .unset, .unset, .unset, .unset, .unset] [(.int (0 : Int32)), (.ref b23)])) _
      refine XS.iload X25.here hx rfl (hb hby at_51) rfl ?_
      show Steps p.tables e below (T25.setTop (mkF m 53 #[.val (.int p1), .val (.int p2), .val (.int p3), .val (.int p4), .val (.int p5), .val (.int p6), .val (.int (1 : Int32)), .val (.int f0), .val (.int f1), .val (.int f2), .val (.ref b22), .val (.ref b23), .unset, .unset, .unset, .unset, .unset] [(.int f0), (.int (0 : Int32)), (.ref b23)])) _
      refine st27 _ ?_
      show Steps p.tables e below (T27.setTop (mkF m 54 #[.val (.int p1), .val (.int p2), .val (.int p3), .val (.int p4), .val (.int p5), .val (.int p6), .val (.int (1 : Int32)), .val (.int f0), .val (.int f1), .val (.int f2), .val (.ref b22), .val (.ref b23), .unset, .unset, .unset, .unset, .unset] [])) _
      refine XS.iload X27.here hx rfl (hb hby at_54) rfl ?_
      show Steps p.tables e below (T27.setTop (mkF m 56 #[.val (.int p1), .val (.int p2), .val (.int p3), .val (.int p4), .val (.int p5), .val (.int p6), .val (.int (1 : Int32)), .val (.int f0), .val (.int f1), .val (.int f2), .val (.ref b22), .val (.ref b23), .unset, .unset, .unset, .unset, .unset] [(.int (1 : Int32))])) _
      refine XS.iconst X27.here hx rfl (hb hby at_56) ?_
      show Steps p.tables e below (T27.setTop (mkF m 57 #[.val (.int p1), .val (.int p2), .val (.int p3), .val (.int p4), .val (.int p5), .val (.int p6), .val (.int (1 : Int32)), .val (.int f0), .val (.int f1), .val (.int f2), .val (.ref b22), .val (.ref b23), .unset, .unset, .unset, .unset, .unset] [(.int (1 : Int32)), (.int (1 : Int32))])) _
      refine XS.icmpYes X27.here hx rfl (pc0 := 57) (pc' := 71) rfl (hb hby at_57) rfl (flt ((by decide) : ¬ ((1 : Int32) < (1 : Int32)))).2.2.2 (by decide) (by decide) ?_
      show Steps p.tables e below (T27.setTop (mkF m 71 #[.val (.int p1), .val (.int p2), .val (.int p3), .val (.int p4), .val (.int p5), .val (.int p6), .val (.int (1 : Int32)), .val (.int f0), .val (.int f1), .val (.int f2), .val (.ref b22), .val (.ref b23), .unset, .unset, .unset, .unset, .unset] [])) _
      refine XS.iload X27.here hx rfl (hb hby at_71) rfl ?_
      show Steps p.tables e below (T27.setTop (mkF m 73 #[.val (.int p1), .val (.int p2), .val (.int p3), .val (.int p4), .val (.int p5), .val (.int p6), .val (.int (1 : Int32)), .val (.int f0), .val (.int f1), .val (.int f2), .val (.ref b22), .val (.ref b23), .unset, .unset, .unset, .unset, .unset] [(.int (1 : Int32))])) _
      refine XS.iconst X27.here hx rfl (hb hby at_73) ?_
      show Steps p.tables e below (T27.setTop (mkF m 74 #[.val (.int p1), .val (.int p2), .val (.int p3), .val (.int p4), .val (.int p5), .val (.int p6), .val (.int (1 : Int32)), .val (.int f0), .val (.int f1), .val (.int f2), .val (.ref b22), .val (.ref b23), .unset, .unset, .unset, .unset, .unset] [(.int (2 : Int32)), (.int (1 : Int32))])) _
      refine XS.icmpYes X27.here hx rfl (pc0 := 74) (pc' := 88) rfl (hb hby at_74) rfl (flt ((by decide) : ¬ ((2 : Int32) < (1 : Int32)))).2.2.2 (by decide) (by decide) ?_
      show Steps p.tables e below (T27.setTop (mkF m 88 #[.val (.int p1), .val (.int p2), .val (.int p3), .val (.int p4), .val (.int p5), .val (.int p6), .val (.int (1 : Int32)), .val (.int f0), .val (.int f1), .val (.int f2), .val (.ref b22), .val (.ref b23), .unset, .unset, .unset, .unset, .unset] [])) _
      refine XS.iload X27.here hx rfl (hb hby at_88) rfl ?_
      show Steps p.tables e below (T27.setTop (mkF m 90 #[.val (.int p1), .val (.int p2), .val (.int p3), .val (.int p4), .val (.int p5), .val (.int p6), .val (.int (1 : Int32)), .val (.int f0), .val (.int f1), .val (.int f2), .val (.ref b22), .val (.ref b23), .unset, .unset, .unset, .unset, .unset] [(.int (1 : Int32))])) _
      refine XS.ifNo X27.here hx rfl (hb hby at_90) rfl ((if0 _ _).trans (tlt ((by decide) : (0 : Int32) < (1 : Int32))).2.2.2) ?_
      show Steps p.tables e below (T27.setTop (mkF m 93 #[.val (.int p1), .val (.int p2), .val (.int p3), .val (.int p4), .val (.int p5), .val (.int p6), .val (.int (1 : Int32)), .val (.int f0), .val (.int f1), .val (.int f2), .val (.ref b22), .val (.ref b23), .unset, .unset, .unset, .unset, .unset] [])) _
      refine XS.iload X27.here hx rfl (hb hby at_93) rfl ?_
      show Steps p.tables e below (T27.setTop (mkF m 95 #[.val (.int p1), .val (.int p2), .val (.int p3), .val (.int p4), .val (.int p5), .val (.int p6), .val (.int (1 : Int32)), .val (.int f0), .val (.int f1), .val (.int f2), .val (.ref b22), .val (.ref b23), .unset, .unset, .unset, .unset, .unset] [(.int f0)])) _
      refine XS.goto X27.here hx rfl (pc0 := 95) (pc' := 99) rfl (hb hby at_95) (by decide) (by decide) ?_
      show Steps p.tables e below (T27.setTop (mkF m 99 #[.val (.int p1), .val (.int p2), .val (.int p3), .val (.int p4), .val (.int p5), .val (.int p6), .val (.int (1 : Int32)), .val (.int f0), .val (.int f1), .val (.int f2), .val (.ref b22), .val (.ref b23), .unset, .unset, .unset, .unset, .unset] [(.int f0)])) _
      refine XS.iload X27.here hx rfl (hb hby at_99) rfl ?_
      show Steps p.tables e below (T27.setTop (mkF m 101 #[.val (.int p1), .val (.int p2), .val (.int p3), .val (.int p4), .val (.int p5), .val (.int p6), .val (.int (1 : Int32)), .val (.int f0), .val (.int f1), .val (.int f2), .val (.ref b22), .val (.ref b23), .unset, .unset, .unset, .unset, .unset] [(.int (1 : Int32)), (.int f0)])) _
      refine XS.iconst X27.here hx rfl (hb hby at_101) ?_
      show Steps p.tables e below (T27.setTop (mkF m 102 #[.val (.int p1), .val (.int p2), .val (.int p3), .val (.int p4), .val (.int p5), .val (.int p6), .val (.int (1 : Int32)), .val (.int f0), .val (.int f1), .val (.int f2), .val (.ref b22), .val (.ref b23), .unset, .unset, .unset, .unset, .unset] [(.int (1 : Int32)), (.int (1 : Int32)), (.int f0)])) _
      refine XS.icmpYes X27.here hx rfl (pc0 := 102) (pc' := 110) rfl (hb hby at_102) rfl (flt ((by decide) : ¬ ((1 : Int32) < (1 : Int32)))).2.2.2 (by decide) (by decide) ?_
      show Steps p.tables e below (T27.setTop (mkF m 110 #[.val (.int p1), .val (.int p2), .val (.int p3), .val (.int p4), .val (.int p5), .val (.int p6), .val (.int (1 : Int32)), .val (.int f0), .val (.int f1), .val (.int f2), .val (.ref b22), .val (.ref b23), .unset, .unset, .unset, .unset, .unset] [(.int f0)])) _
      refine XS.iconst X27.here hx rfl (hb hby at_110) ?_
      show Steps p.tables e below (T27.setTop (mkF m 111 #[.val (.int p1), .val (.int p2), .val (.int p3), .val (.int p4), .val (.int p5), .val (.int p6), .val (.int (1 : Int32)), .val (.int f0), .val (.int f1), .val (.int f2), .val (.ref b22), .val (.ref b23), .unset, .unset, .unset, .unset, .unset] [(.int (0 : Int32)), (.int f0)])) _
      refine XS.iadd X27.here hx rfl (hb hby at_111) rfl ?_
      show Steps p.tables e below (T27.setTop (mkF m 112 #[.val (.int p1), .val (.int p2), .val (.int p3), .val (.int p4), .val (.int p5), .val (.int p6), .val (.int (1 : Int32)), .val (.int f0), .val (.int f1), .val (.int f2), .val (.ref b22), .val (.ref b23), .unset, .unset, .unset, .unset, .unset] [(.int (f0 + (0 : Int32)))])) _
      refine XS.iload X27.here hx rfl (hb hby at_112) rfl ?_
      show Steps p.tables e below (T27.setTop (mkF m 114 #[.val (.int p1), .val (.int p2), .val (.int p3), .val (.int p4), .val (.int p5), .val (.int p6), .val (.int (1 : Int32)), .val (.int f0), .val (.int f1), .val (.int f2), .val (.ref b22), .val (.ref b23), .unset, .unset, .unset, .unset, .unset] [(.int (1 : Int32)), (.int (f0 + (0 : Int32)))])) _
      refine XS.iconst X27.here hx rfl (hb hby at_114) ?_
      show Steps p.tables e below (T27.setTop (mkF m 115 #[.val (.int p1), .val (.int p2), .val (.int p3), .val (.int p4), .val (.int p5), .val (.int p6), .val (.int (1 : Int32)), .val (.int f0), .val (.int f1), .val (.int f2), .val (.ref b22), .val (.ref b23), .unset, .unset, .unset, .unset, .unset] [(.int (2 : Int32)), (.int (1 : Int32)), (.int (f0 + (0 : Int32)))])) _
      refine XS.icmpYes X27.here hx rfl (pc0 := 115) (pc' := 123) rfl (hb hby at_115) rfl (flt ((by decide) : ¬ ((2 : Int32) < (1 : Int32)))).2.2.2 (by decide) (by decide) ?_
      show Steps p.tables e below (T27.setTop (mkF m 123 #[.val (.int p1), .val (.int p2), .val (.int p3), .val (.int p4), .val (.int p5), .val (.int p6), .val (.int (1 : Int32)), .val (.int f0), .val (.int f1), .val (.int f2), .val (.ref b22), .val (.ref b23), .unset, .unset, .unset, .unset, .unset] [(.int (f0 + (0 : Int32)))])) _
      refine XS.iconst X27.here hx rfl (hb hby at_123) ?_
      show Steps p.tables e below (T27.setTop (mkF m 124 #[.val (.int p1), .val (.int p2), .val (.int p3), .val (.int p4), .val (.int p5), .val (.int p6), .val (.int (1 : Int32)), .val (.int f0), .val (.int f1), .val (.int f2), .val (.ref b22), .val (.ref b23), .unset, .unset, .unset, .unset, .unset] [(.int (0 : Int32)), (.int (f0 + (0 : Int32)))])) _
      refine XS.iadd X27.here hx rfl (hb hby at_124) rfl ?_
      exact k)
    obtain ⟨tot, h_tot⟩ : ∃ z : Int32, z = ((f0 + (0 : Int32)) + (0 : Int32)) := ⟨_, rfl⟩
    rw [← h_tot] at pre28
    rw [← h_tot] at htot
    have pre29 : ∀ t, Steps p.tables e below (T27.setTop (mkF m 131 #[.val (.int p1), .val (.int p2), .val (.int p3), .val (.int p4), .val (.int p5), .val (.int p6), .val (.int (1 : Int32)), .val (.int f0), .val (.int f1), .val (.int f2), .val (.ref b22), .val (.ref b23), .val (.int tot), .unset, .unset, .unset, .unset] [(.int (p6 &&& (1 : Int32)))])) t → Steps p.tables e below (s₁.setTop (entryFrame m #[(.int p1), (.int p2), (.int p3), (.int p4), (.int p5), (.int p6)] maxLocals)) t := fun t k => pre28 t (by
      show Steps p.tables e below (T27.setTop (mkF m 125 #[.val (.int p1), .val (.int p2), .val (.int p3), .val (.int p4), .val (.int p5), .val (.int p6), .val (.int (1 : Int32)), .val (.int f0), .val (.int f1), .val (.int f2), .val (.ref b22), .val (.ref b23), .unset, .unset, .unset, .unset, .unset] [(.int tot)])) _
      refine XS.istore X27.here hx rfl (hb hby at_125) rfl (l' := #[.val (.int p1), .val (.int p2), .val (.int p3), .val (.int p4), .val (.int p5), .val (.int p6), .val (.int (1 : Int32)), .val (.int f0), .val (.int f1), .val (.int f2), .val (.ref b22), .val (.ref b23), .val (.int tot), .unset, .unset, .unset, .unset]) rfl ?_
      show Steps p.tables e below (T27.setTop (mkF m 127 #[.val (.int p1), .val (.int p2), .val (.int p3), .val (.int p4), .val (.int p5), .val (.int p6), .val (.int (1 : Int32)), .val (.int f0), .val (.int f1), .val (.int f2), .val (.ref b22), .val (.ref b23), .val (.int tot), .unset, .unset, .unset, .unset] [])) _
      refine XS.iload X27.here hx rfl (hb hby at_127) rfl ?_
      show Steps p.tables e below (T27.setTop (mkF m 129 #[.val (.int p1), .val (.int p2), .val (.int p3), .val (.int p4), .val (.int p5), .val (.int p6), .val (.int (1 : Int32)), .val (.int f0), .val (.int f1), .val (.int f2), .val (.ref b22), .val (.ref b23), .val (.int tot), .unset, .unset, .unset, .unset] [(.int p6)])) _
      refine XS.iconst X27.here hx rfl (hb hby at_129) ?_
      show Steps p.tables e below (T27.setTop (mkF m 130 #[.val (.int p1), .val (.int p2), .val (.int p3), .val (.int p4), .val (.int p5), .val (.int p6), .val (.int (1 : Int32)), .val (.int f0), .val (.int f1), .val (.int f2), .val (.ref b22), .val (.ref b23), .val (.int tot), .unset, .unset, .unset, .unset] [(.int (1 : Int32)), (.int p6)])) _
      refine XS.iand X27.here hx rfl (hb hby at_130) rfl ?_
      exact k)
    rcases hp2 with hp | hp
    · obtain ⟨T30, h30, X30, e30, E30, A30, D30, -, st30⟩ := newO X27 hx hZ hown (hw _ (List.mem_of_getElem? (i := 1) rfl)) (hw _ (List.mem_of_getElem? (i := 2) rfl)) (hw _ (List.mem_of_getElem? (i := 3) rfl)) e27 (g := (mkF m 181 #[.val (.int p1), .val (.int p2), .val (.int p3), .val (.int p4), .val (.int p5), .val (.int p6), .val (.int (1 : Int32)), .val (.int f0), .val (.int f1), .val (.int f2), .val (.ref b22), .val (.ref b23), .val (.int tot), .val (.int (0 : Int32)), .val .null, .unset, .unset] [])) rfl (hb hby at_181) (by decide) (by decide)
      obtain ⟨b30, g30⟩ : ∃ z, z = h27.size := ⟨_, rfl⟩
      rw [← g30] at A30 D30 st30
      have ne_b22_b30 : b22 ≠ b30 := Nat.ne_of_lt (Nat.lt_of_lt_of_le (V27_0).lt (Nat.le_of_eq g30.symm))
      have ne_b23_b30 : b23 ≠ b30 := Nat.ne_of_lt (Nat.lt_of_lt_of_le (V_b23_27).lt (Nat.le_of_eq g30.symm))
      have g_b30 : n0 ≤ b30 := Nat.le_trans z27 (Nat.le_of_eq g30.symm)
      have V30_0 := V27_0.ext E30
      have V30_1 := V_b23_27.ext E30
      have z30 : n0 ≤ h30.size := Nat.le_trans z27 E30.1
      have F_documents_b30 : Fld Z h30 b30 "com/example/cranfield/cranfield/index/Postings" "documents" "[I" .null := D30 (Or.inr (hw _ (List.mem_of_getElem? (i := 11) rfl))) (ty := (.array .int)) (by decide)
      have F_frequencies_b30 : Fld Z h30 b30 "com/example/cranfield/cranfield/index/Postings" "frequencies" "[I" .null := D30 (Or.inr (hw _ (List.mem_of_getElem? (i := 13) rfl))) (ty := (.array .int)) (by decide)
      have F_positions_b30 : Fld Z h30 b30 "com/example/cranfield/cranfield/index/Postings" "positions" "[I" .null := D30 (Or.inr (hw _ (List.mem_of_getElem? (i := 15) rfl))) (ty := (.array .int)) (by decide)
      have F_firstPositions_b30 : Fld Z h30 b30 "com/example/cranfield/cranfield/index/Postings" "firstPositions" "[I" .null := D30 (Or.inr (hw _ (List.mem_of_getElem? (i := 17) rfl))) (ty := (.array .int)) (by decide)
      obtain ⟨_, _, ⟨T31, L31, k31, n31⟩, -, X31, ⟨Lc31, hQ31, l31, y31, z31⟩, st31⟩ := X30.specialBack hx (y := (⟨"com/example/cranfield/cranfield/index/Postings", "<init>", "([I[I[I)V"⟩ : MethodName)) rfl hown (mvT hZ (hw _ (List.mem_of_getElem? (i := 4) rfl))) (mvT hZ (hw _ (List.mem_of_getElem? (i := 5) rfl))) (mvT hZ (hw _ (List.mem_of_getElem? (i := 6) rfl))) (by decide) (backOf (W := 1) (rmIn l Z a0 hw [] b30 b22 b23  h30 n0 z30 A30 g_b30 F_documents_b30 F_frequencies_b30 F_positions_b30 F_firstPositions_b30) hZ (hw _ (List.mem_of_getElem? (i := 6) rfl)) (hw _ (List.mem_of_getElem? (i := 3) rfl)) (by decide) (by decide)) (g := (mkF m 191 #[.val (.int p1), .val (.int p2), .val (.int p3), .val (.int p4), .val (.int p5), .val (.int p6), .val (.int (1 : Int32)), .val (.int f0), .val (.int f1), .val (.int f2), .val (.ref b22), .val (.ref b23), .val (.int tot), .val (.int (0 : Int32)), .val .null, .unset, .unset] [.null, (.ref b23), (.ref b22), (.ref b30), (.ref b30)])) rfl (by rw [hml]; rfl) (Steps.refl _) (a := b30) (argsL := [(.ref b22), (.ref b23), .null]) (rest := [(.ref b30)]) (lenOf own_pd0 rfl) rfl (by show 2 * 0 + _ ≤ _; exact Nat.le_of_eq rfl) (hb hby at_191) (fun _ _ => ⟨rfl, e30, (by decide : 3 + 0 ≤ _), (by decide : 6 + 0 ≤ _)⟩)
      dsimp only [Pt.U, Pt.locs, Pt.cells, Pt.slots] at X31 l31 y31 z31 st31 hQ31
      subst l31 y31 z31
      obtain ⟨h31, e31⟩ : ∃ z, T31.heap = z := ⟨_, rfl⟩
      rw [e31] at hQ31
      obtain ⟨rfl, N31q, Kc31, fp31⟩ := hQ31
      have N31 := Fr.app N27 N31q
      have X31_525 := A30.keep Kc31
      have V31_526 := V30_0.keep Kc31 (ninS ne_b22_b30 nin0)
      have V31_527 := V30_1.keep Kc31 (ninS ne_b23_b30 nin0)
      have z31 : n0 ≤ h31.size := Nat.le_trans z30 Kc31.1
      obtain ⟨cq32, kq32, q32a, q32b, q32c⟩ := isOf hZ e31 X31_525
      obtain ⟨_, _, ⟨T32, L32, k32, n32⟩, -, X32, ⟨Lc32, hQ32, l32, y32, z32⟩, st32⟩ := X31.virtualBack hx (y := (⟨"com/example/cranfield/cranfield/index/Postings", "positionCount", "()I"⟩ : MethodName)) (z := (⟨"com/example/cranfield/cranfield/index/Postings", "positionCount", "()I"⟩ : MethodName)) hown (mvT hZ (hw _ (List.mem_of_getElem? (i := 18) rfl))) (mvT hZ (hw _ (List.mem_of_getElem? (i := 19) rfl))) (notFace_of_selects (args := #[]) (mvT hZ (hw _ (List.mem_of_getElem? (i := 21) rfl)))) (mvT hZ (hw _ (List.mem_of_getElem? (i := 21) rfl))) (mvT hZ (hw _ (List.mem_of_getElem? (i := 20) rfl))) (by decide) (backOf (W := 0) (rmPn l Z a0 hw [] b30  h31 n0 z31 fp31) hZ (hw _ (List.mem_of_getElem? (i := 22) rfl)) (hw _ (List.mem_of_getElem? (i := 3) rfl)) (by decide) (by decide)) q32a q32c (g := (mkF m 198 #[.val (.int p1), .val (.int p2), .val (.int p3), .val (.int p4), .val (.int p5), .val (.int p6), .val (.int (1 : Int32)), .val (.int f0), .val (.int f1), .val (.int f2), .val (.ref b22), .val (.ref b23), .val (.int tot), .val (.int (0 : Int32)), .val .null, .val (.ref b30), .unset] [(.ref b30)])) rfl (by rw [hml]; rfl) (Steps.refl _) (argsL := []) (rest := []) (lenOf own_pd1 rfl) rfl (by show 2 * 0 + _ ≤ _; exact Nat.le_of_eq rfl) (hb hby at_198) (fun _ _ => ⟨rfl, e31, (by decide : 3 + 0 ≤ _), (by decide : 6 + 0 ≤ _)⟩)
      dsimp only [Pt.U, Pt.locs, Pt.cells, Pt.slots] at X32 l32 y32 z32 st32 hQ32
      subst l32 y32 z32
      obtain ⟨rfl, N32q, e32⟩ := hQ32
      have N32 := Fr.app N31 N32q
      obtain ⟨cq33, kq33, q33a, q33b, q33c⟩ := isOf hZ e32 X31_525
      obtain ⟨_, _, ⟨T33, L33, k33, n33⟩, -, X33, ⟨Lc33, hQ33, l33, y33, z33⟩, st33⟩ := X32.virtualBack hx (y := (⟨"com/example/cranfield/cranfield/index/Postings", "hasPositions", "()Z"⟩ : MethodName)) (z := (⟨"com/example/cranfield/cranfield/index/Postings", "hasPositions", "()Z"⟩ : MethodName)) hown (mvT hZ (hw _ (List.mem_of_getElem? (i := 23) rfl))) (mvT hZ (hw _ (List.mem_of_getElem? (i := 24) rfl))) (notFace_of_selects (args := #[]) (mvT hZ (hw _ (List.mem_of_getElem? (i := 26) rfl)))) (mvT hZ (hw _ (List.mem_of_getElem? (i := 26) rfl))) (mvT hZ (hw _ (List.mem_of_getElem? (i := 25) rfl))) (by decide) (backOf (W := 0) (rmHn l Z a0 hw [] b30  h31 n0 z31 fp31) hZ (hw _ (List.mem_of_getElem? (i := 27) rfl)) (hw _ (List.mem_of_getElem? (i := 3) rfl)) (by decide) (by decide)) q33a q33c (g := (mkF m 205 #[.val (.int p1), .val (.int p2), .val (.int p3), .val (.int p4), .val (.int p5), .val (.int p6), .val (.int (1 : Int32)), .val (.int f0), .val (.int f1), .val (.int f2), .val (.ref b22), .val (.ref b23), .val (.int tot), .val (.int (0 : Int32)), .val .null, .val (.ref b30), .val (.int (0 : Int32))] [(.ref b30)])) rfl (by rw [hml]; rfl) (Steps.refl _) (argsL := []) (rest := []) (lenOf own_pd2 rfl) rfl (by show 2 * 0 + _ ≤ _; exact Nat.le_of_eq rfl) (hb hby at_205) (fun _ _ => ⟨rfl, e32, (by decide : 3 + 0 ≤ _), (by decide : 6 + 0 ≤ _)⟩)
      dsimp only [Pt.U, Pt.locs, Pt.cells, Pt.slots] at X33 l33 y33 z33 st33 hQ33
      subst l33 y33 z33
      obtain ⟨rfl, N33q, e33⟩ := hQ33
      have N33 := Fr.app N32 N33q
      have pre34 : ∀ t, Steps p.tables e below (T33.setTop (mkF m 243 #[.val (.int p1), .val (.int p2), .val (.int p3), .val (.int p4), .val (.int p5), .val (.int p6), .val (.int (1 : Int32)), .val (.int f0), .val (.int f1), .val (.int f2), .val (.ref b22), .val (.ref b23), .val (.int tot), .val (.int (0 : Int32)), .val .null, .val (.ref b30), .val (.int (0 : Int32))] [(.int (1 : Int32))])) t → Steps p.tables e below (s₁.setTop (entryFrame m #[(.int p1), (.int p2), (.int p3), (.int p4), (.int p5), (.int p6)] maxLocals)) t := fun t k => pre29 t (by
        show Steps p.tables e below (T27.setTop (mkF m 131 #[.val (.int p1), .val (.int p2), .val (.int p3), .val (.int p4), .val (.int p5), .val (.int p6), .val (.int (1 : Int32)), .val (.int f0), .val (.int f1), .val (.int f2), .val (.ref b22), .val (.ref b23), .val (.int tot), .unset, .unset, .unset, .unset] [(.int (p6 &&& (1 : Int32)))])) _
        refine XS.ifYes X27.here hx rfl (pc0 := 131) (pc' := 138) rfl (hb hby at_131) rfl ((if0 _ _).trans (teq (hp : (p6 &&& (1 : Int32)) = (0 : Int32))).1) (by decide) (by decide) ?_
        show Steps p.tables e below (T27.setTop (mkF m 138 #[.val (.int p1), .val (.int p2), .val (.int p3), .val (.int p4), .val (.int p5), .val (.int p6), .val (.int (1 : Int32)), .val (.int f0), .val (.int f1), .val (.int f2), .val (.ref b22), .val (.ref b23), .val (.int tot), .unset, .unset, .unset, .unset] [])) _
        refine XS.iconst X27.here hx rfl (hb hby at_138) ?_
        show Steps p.tables e below (T27.setTop (mkF m 139 #[.val (.int p1), .val (.int p2), .val (.int p3), .val (.int p4), .val (.int p5), .val (.int p6), .val (.int (1 : Int32)), .val (.int f0), .val (.int f1), .val (.int f2), .val (.ref b22), .val (.ref b23), .val (.int tot), .unset, .unset, .unset, .unset] [(.int (0 : Int32))])) _
        refine XS.istore X27.here hx rfl (hb hby at_139) rfl (l' := #[.val (.int p1), .val (.int p2), .val (.int p3), .val (.int p4), .val (.int p5), .val (.int p6), .val (.int (1 : Int32)), .val (.int f0), .val (.int f1), .val (.int f2), .val (.ref b22), .val (.ref b23), .val (.int tot), .val (.int (0 : Int32)), .unset, .unset, .unset]) rfl ?_
        show Steps p.tables e below (T27.setTop (mkF m 141 #[.val (.int p1), .val (.int p2), .val (.int p3), .val (.int p4), .val (.int p5), .val (.int p6), .val (.int (1 : Int32)), .val (.int f0), .val (.int f1), .val (.int f2), .val (.ref b22), .val (.ref b23), .val (.int tot), .val (.int (0 : Int32)), .unset, .unset, .unset] [])) _
        refine XS.aconstNull X27.here hx rfl (hb hby at_141) ?_
        show Steps p.tables e below (T27.setTop (mkF m 142 #[.val (.int p1), .val (.int p2), .val (.int p3), .val (.int p4), .val (.int p5), .val (.int p6), .val (.int (1 : Int32)), .val (.int f0), .val (.int f1), .val (.int f2), .val (.ref b22), .val (.ref b23), .val (.int tot), .val (.int (0 : Int32)), .unset, .unset, .unset] [.null])) _
        refine XS.astore X27.here hx rfl (hb hby at_142) rfl rfl (l' := #[.val (.int p1), .val (.int p2), .val (.int p3), .val (.int p4), .val (.int p5), .val (.int p6), .val (.int (1 : Int32)), .val (.int f0), .val (.int f1), .val (.int f2), .val (.ref b22), .val (.ref b23), .val (.int tot), .val (.int (0 : Int32)), .val .null, .unset, .unset]) rfl ?_
        show Steps p.tables e below (T27.setTop (mkF m 144 #[.val (.int p1), .val (.int p2), .val (.int p3), .val (.int p4), .val (.int p5), .val (.int p6), .val (.int (1 : Int32)), .val (.int f0), .val (.int f1), .val (.int f2), .val (.ref b22), .val (.ref b23), .val (.int tot), .val (.int (0 : Int32)), .val .null, .unset, .unset] [])) _
        refine XS.iload X27.here hx rfl (hb hby at_144) rfl ?_
        show Steps p.tables e below (T27.setTop (mkF m 146 #[.val (.int p1), .val (.int p2), .val (.int p3), .val (.int p4), .val (.int p5), .val (.int p6), .val (.int (1 : Int32)), .val (.int f0), .val (.int f1), .val (.int f2), .val (.ref b22), .val (.ref b23), .val (.int tot), .val (.int (0 : Int32)), .val .null, .unset, .unset] [(.int (0 : Int32))])) _
        refine XS.ifYes X27.here hx rfl (pc0 := 146) (pc' := 181) rfl (hb hby at_146) rfl ((if0 _ _).trans (teq ((by decide) : (0 : Int32) = (0 : Int32))).1) (by decide) (by decide) ?_
        show Steps p.tables e below (T27.setTop (mkF m 181 #[.val (.int p1), .val (.int p2), .val (.int p3), .val (.int p4), .val (.int p5), .val (.int p6), .val (.int (1 : Int32)), .val (.int f0), .val (.int f1), .val (.int f2), .val (.ref b22), .val (.ref b23), .val (.int tot), .val (.int (0 : Int32)), .val .null, .unset, .unset] [])) _
        refine st30 _ ?_
        show Steps p.tables e below (T30.setTop (mkF m 184 #[.val (.int p1), .val (.int p2), .val (.int p3), .val (.int p4), .val (.int p5), .val (.int p6), .val (.int (1 : Int32)), .val (.int f0), .val (.int f1), .val (.int f2), .val (.ref b22), .val (.ref b23), .val (.int tot), .val (.int (0 : Int32)), .val .null, .unset, .unset] [(.ref b30)])) _
        refine XS.dup X30.here hx rfl (hb hby at_184) rfl rfl ?_
        show Steps p.tables e below (T30.setTop (mkF m 185 #[.val (.int p1), .val (.int p2), .val (.int p3), .val (.int p4), .val (.int p5), .val (.int p6), .val (.int (1 : Int32)), .val (.int f0), .val (.int f1), .val (.int f2), .val (.ref b22), .val (.ref b23), .val (.int tot), .val (.int (0 : Int32)), .val .null, .unset, .unset] [(.ref b30), (.ref b30)])) _
        refine XS.aload X30.here hx rfl (hb hby at_185) rfl rfl ?_
        show Steps p.tables e below (T30.setTop (mkF m 187 #[.val (.int p1), .val (.int p2), .val (.int p3), .val (.int p4), .val (.int p5), .val (.int p6), .val (.int (1 : Int32)), .val (.int f0), .val (.int f1), .val (.int f2), .val (.ref b22), .val (.ref b23), .val (.int tot), .val (.int (0 : Int32)), .val .null, .unset, .unset] [(.ref b22), (.ref b30), (.ref b30)])) _
        refine XS.aload X30.here hx rfl (hb hby at_187) rfl rfl ?_
        show Steps p.tables e below (T30.setTop (mkF m 189 #[.val (.int p1), .val (.int p2), .val (.int p3), .val (.int p4), .val (.int p5), .val (.int p6), .val (.int (1 : Int32)), .val (.int f0), .val (.int f1), .val (.int f2), .val (.ref b22), .val (.ref b23), .val (.int tot), .val (.int (0 : Int32)), .val .null, .unset, .unset] [(.ref b23), (.ref b22), (.ref b30), (.ref b30)])) _
        refine XS.aload X30.here hx rfl (hb hby at_189) rfl rfl ?_
        show Steps p.tables e below (T30.setTop (mkF m 191 #[.val (.int p1), .val (.int p2), .val (.int p3), .val (.int p4), .val (.int p5), .val (.int p6), .val (.int (1 : Int32)), .val (.int f0), .val (.int f1), .val (.int f2), .val (.ref b22), .val (.ref b23), .val (.int tot), .val (.int (0 : Int32)), .val .null, .unset, .unset] [.null, (.ref b23), (.ref b22), (.ref b30), (.ref b30)])) _
        refine st31.trans ?_
        show Steps p.tables e below (T31.setTop (mkF m 194 #[.val (.int p1), .val (.int p2), .val (.int p3), .val (.int p4), .val (.int p5), .val (.int p6), .val (.int (1 : Int32)), .val (.int f0), .val (.int f1), .val (.int f2), .val (.ref b22), .val (.ref b23), .val (.int tot), .val (.int (0 : Int32)), .val .null, .unset, .unset] [(.ref b30)])) _
        refine XS.astore X31.here hx rfl (hb hby at_194) rfl rfl (l' := #[.val (.int p1), .val (.int p2), .val (.int p3), .val (.int p4), .val (.int p5), .val (.int p6), .val (.int (1 : Int32)), .val (.int f0), .val (.int f1), .val (.int f2), .val (.ref b22), .val (.ref b23), .val (.int tot), .val (.int (0 : Int32)), .val .null, .val (.ref b30), .unset]) rfl ?_
        show Steps p.tables e below (T31.setTop (mkF m 196 #[.val (.int p1), .val (.int p2), .val (.int p3), .val (.int p4), .val (.int p5), .val (.int p6), .val (.int (1 : Int32)), .val (.int f0), .val (.int f1), .val (.int f2), .val (.ref b22), .val (.ref b23), .val (.int tot), .val (.int (0 : Int32)), .val .null, .val (.ref b30), .unset] [])) _
        refine XS.aload X31.here hx rfl (hb hby at_196) rfl rfl ?_
        show Steps p.tables e below (T31.setTop (mkF m 198 #[.val (.int p1), .val (.int p2), .val (.int p3), .val (.int p4), .val (.int p5), .val (.int p6), .val (.int (1 : Int32)), .val (.int f0), .val (.int f1), .val (.int f2), .val (.ref b22), .val (.ref b23), .val (.int tot), .val (.int (0 : Int32)), .val .null, .val (.ref b30), .unset] [(.ref b30)])) _
        refine st32.trans ?_
        show Steps p.tables e below (T32.setTop (mkF m 201 #[.val (.int p1), .val (.int p2), .val (.int p3), .val (.int p4), .val (.int p5), .val (.int p6), .val (.int (1 : Int32)), .val (.int f0), .val (.int f1), .val (.int f2), .val (.ref b22), .val (.ref b23), .val (.int tot), .val (.int (0 : Int32)), .val .null, .val (.ref b30), .unset] [(.int (0 : Int32))])) _
        refine XS.istore X32.here hx rfl (hb hby at_201) rfl (l' := #[.val (.int p1), .val (.int p2), .val (.int p3), .val (.int p4), .val (.int p5), .val (.int p6), .val (.int (1 : Int32)), .val (.int f0), .val (.int f1), .val (.int f2), .val (.ref b22), .val (.ref b23), .val (.int tot), .val (.int (0 : Int32)), .val .null, .val (.ref b30), .val (.int (0 : Int32))]) rfl ?_
        show Steps p.tables e below (T32.setTop (mkF m 203 #[.val (.int p1), .val (.int p2), .val (.int p3), .val (.int p4), .val (.int p5), .val (.int p6), .val (.int (1 : Int32)), .val (.int f0), .val (.int f1), .val (.int f2), .val (.ref b22), .val (.ref b23), .val (.int tot), .val (.int (0 : Int32)), .val .null, .val (.ref b30), .val (.int (0 : Int32))] [])) _
        refine XS.aload X32.here hx rfl (hb hby at_203) rfl rfl ?_
        show Steps p.tables e below (T32.setTop (mkF m 205 #[.val (.int p1), .val (.int p2), .val (.int p3), .val (.int p4), .val (.int p5), .val (.int p6), .val (.int (1 : Int32)), .val (.int f0), .val (.int f1), .val (.int f2), .val (.ref b22), .val (.ref b23), .val (.int tot), .val (.int (0 : Int32)), .val .null, .val (.ref b30), .val (.int (0 : Int32))] [(.ref b30)])) _
        refine st33.trans ?_
        show Steps p.tables e below (T33.setTop (mkF m 208 #[.val (.int p1), .val (.int p2), .val (.int p3), .val (.int p4), .val (.int p5), .val (.int p6), .val (.int (1 : Int32)), .val (.int f0), .val (.int f1), .val (.int f2), .val (.ref b22), .val (.ref b23), .val (.int tot), .val (.int (0 : Int32)), .val .null, .val (.ref b30), .val (.int (0 : Int32))] [(.int (0 : Int32))])) _
        refine XS.iload X33.here hx rfl (hb hby at_208) rfl ?_
        show Steps p.tables e below (T33.setTop (mkF m 210 #[.val (.int p1), .val (.int p2), .val (.int p3), .val (.int p4), .val (.int p5), .val (.int p6), .val (.int (1 : Int32)), .val (.int f0), .val (.int f1), .val (.int f2), .val (.ref b22), .val (.ref b23), .val (.int tot), .val (.int (0 : Int32)), .val .null, .val (.ref b30), .val (.int (0 : Int32))] [(.int (0 : Int32)), (.int (0 : Int32))])) _
        refine XS.icmpYes X33.here hx rfl (pc0 := 210) (pc' := 215) rfl (hb hby at_210) rfl (teq ((by decide) : (0 : Int32) = (0 : Int32))).1 (by decide) (by decide) ?_
        show Steps p.tables e below (T33.setTop (mkF m 215 #[.val (.int p1), .val (.int p2), .val (.int p3), .val (.int p4), .val (.int p5), .val (.int p6), .val (.int (1 : Int32)), .val (.int f0), .val (.int f1), .val (.int f2), .val (.ref b22), .val (.ref b23), .val (.int tot), .val (.int (0 : Int32)), .val .null, .val (.ref b30), .val (.int (0 : Int32))] [])) _
        refine XS.iload X33.here hx rfl (hb hby at_215) rfl ?_
        show Steps p.tables e below (T33.setTop (mkF m 217 #[.val (.int p1), .val (.int p2), .val (.int p3), .val (.int p4), .val (.int p5), .val (.int p6), .val (.int (1 : Int32)), .val (.int f0), .val (.int f1), .val (.int f2), .val (.ref b22), .val (.ref b23), .val (.int tot), .val (.int (0 : Int32)), .val .null, .val (.ref b30), .val (.int (0 : Int32))] [(.int (0 : Int32))])) _
        refine XS.ifYes X33.here hx rfl (pc0 := 217) (pc' := 233) rfl (hb hby at_217) rfl ((if0 _ _).trans (teq ((by decide) : (0 : Int32) = (0 : Int32))).1) (by decide) (by decide) ?_
        show Steps p.tables e below (T33.setTop (mkF m 233 #[.val (.int p1), .val (.int p2), .val (.int p3), .val (.int p4), .val (.int p5), .val (.int p6), .val (.int (1 : Int32)), .val (.int f0), .val (.int f1), .val (.int f2), .val (.ref b22), .val (.ref b23), .val (.int tot), .val (.int (0 : Int32)), .val .null, .val (.ref b30), .val (.int (0 : Int32))] [])) _
        refine XS.iload X33.here hx rfl (hb hby at_233) rfl ?_
        show Steps p.tables e below (T33.setTop (mkF m 235 #[.val (.int p1), .val (.int p2), .val (.int p3), .val (.int p4), .val (.int p5), .val (.int p6), .val (.int (1 : Int32)), .val (.int f0), .val (.int f1), .val (.int f2), .val (.ref b22), .val (.ref b23), .val (.int tot), .val (.int (0 : Int32)), .val .null, .val (.ref b30), .val (.int (0 : Int32))] [(.int (0 : Int32))])) _
        refine XS.ifNo X33.here hx rfl (hb hby at_235) rfl ((if0 _ _).trans (teq ((by decide) : (0 : Int32) = (0 : Int32))).2) ?_
        show Steps p.tables e below (T33.setTop (mkF m 238 #[.val (.int p1), .val (.int p2), .val (.int p3), .val (.int p4), .val (.int p5), .val (.int p6), .val (.int (1 : Int32)), .val (.int f0), .val (.int f1), .val (.int f2), .val (.ref b22), .val (.ref b23), .val (.int tot), .val (.int (0 : Int32)), .val .null, .val (.ref b30), .val (.int (0 : Int32))] [])) _
        refine XS.iconst X33.here hx rfl (hb hby at_238) ?_
        show Steps p.tables e below (T33.setTop (mkF m 239 #[.val (.int p1), .val (.int p2), .val (.int p3), .val (.int p4), .val (.int p5), .val (.int p6), .val (.int (1 : Int32)), .val (.int f0), .val (.int f1), .val (.int f2), .val (.ref b22), .val (.ref b23), .val (.int tot), .val (.int (0 : Int32)), .val .null, .val (.ref b30), .val (.int (0 : Int32))] [(.int (1 : Int32))])) _
        refine XS.goto X33.here hx rfl (pc0 := 239) (pc' := 243) rfl (hb hby at_239) (by decide) (by decide) ?_
        exact k)
      obtain ⟨fs, hr, hrun, hended, hW, hsame⟩ := X33.leave (v := some (.int (nar .boolean (1 : Int32)))) (fun h => by rw [Bd.returns] at h; cases h)
      refine ⟨_, _, pre34 _ ?_, hrun, hended, _, _, rfl, ?_, ⟨_, rfl⟩, hW, hsame.mono (by decide) (by decide)⟩
      · show Steps p.tables e below (T33.setTop (mkF m 243 #[.val (.int p1), .val (.int p2), .val (.int p3), .val (.int p4), .val (.int p5), .val (.int p6), .val (.int (1 : Int32)), .val (.int f0), .val (.int f1), .val (.int f2), .val (.ref b22), .val (.ref b23), .val (.int tot), .val (.int (0 : Int32)), .val .null, .val (.ref b30), .val (.int (0 : Int32))] [(.int (1 : Int32))])) _
        exact retN X33 hx (t := .boolean) Bd.returns (by simp) (hb hby at_243) hr
      · show QL n0 _ T33.heap _
        rw [e33]
        exact ⟨rfl, N33⟩
    · obtain ⟨T35, h35, k35, X35, e35, E35, A35, st35⟩ := newP X27 hx hZ (hw _ (List.mem_of_getElem? (i := 0) rfl)) e27 (g := (mkF m 151 #[.val (.int p1), .val (.int p2), .val (.int p3), .val (.int p4), .val (.int p5), .val (.int p6), .val (.int (1 : Int32)), .val (.int f0), .val (.int f1), .val (.int f2), .val (.ref b22), .val (.ref b23), .val (.int tot), .val (.int (1 : Int32)), .val .null, .unset, .unset] [(.int tot)])) rfl (hb hby at_151) rfl (own_tneg htot) (cap := 12) (own_tcap htot) (by decide) (by decide) (by decide)
      obtain ⟨b35, g35⟩ : ∃ z, z = h27.size := ⟨_, rfl⟩
      rw [← g35] at A35 st35
      have ne_b22_b35 : b22 ≠ b35 := Nat.ne_of_lt (Nat.lt_of_lt_of_le (V27_0).lt (Nat.le_of_eq g35.symm))
      have ne_b23_b35 : b23 ≠ b35 := Nat.ne_of_lt (Nat.lt_of_lt_of_le (V_b23_27).lt (Nat.le_of_eq g35.symm))
      have g_b35 : n0 ≤ b35 := Nat.le_trans z27 (Nat.le_of_eq g35.symm)
      have V35_0 := V27_0.ext E35
      have V35_1 := V_b23_27.ext E35
      have z35 : n0 ≤ h35.size := Nat.le_trans z27 E35.1
      have V_b35 : Arv Z h35 b35 k35 .int tot [(.int (0 : Int32))] (.int (0 : Int32)) := (Arv.new A35 (own_tneg htot)).pad (pad_rep [] (.int (0 : Int32)) 1)
      obtain ⟨cl36, Ar36, q36, S36, M36, H36, G36⟩ := id V_b35
      have hin36 : ¬ ((0 : Int32) < 0 ∨ cl36.slots.size ≤ ((0 : Int32)).toNatClampNeg) := inb_of S36 ⟨by decide, own_tpos htot⟩
      obtain ⟨T37, h37, X37, e37, W37, st37⟩ := stI X35 hx hZ e35 Ar36 (j := (0 : Int32)) hin36 (g := (mkF m 165 #[.val (.int p1), .val (.int p2), .val (.int p3), .val (.int p4), .val (.int p5), .val (.int p6), .val (.int (1 : Int32)), .val (.int f0), .val (.int f1), .val (.int f2), .val (.ref b22), .val (.ref b23), .val (.int tot), .val (.int (1 : Int32)), .val (.ref b35), .unset, .unset] [(.int p5), (.int (0 : Int32)), (.ref b35)])) rfl rfl (hb hby at_165)
      have V_b35_37 : Arv Z h37 b35 k35 .int tot [(.int p5)] (.int (0 : Int32)) := Arv.set Ar36 q36 S36 M36 H36 G36 rfl W37 0 rfl (Nat.le_of_ble_eq_true rfl)
      have V37_0 := V35_0.other W37 ne_b22_b35
      have V37_1 := V35_1.other W37 ne_b23_b35
      have z37 : n0 ≤ h37.size := by rw [W37.size]; exact z35
      have N37 := Fr.snoc X37 N27 g_b35
      have pre38 : ∀ t, Steps p.tables e below (T37.setTop (mkF m 169 #[.val (.int p1), .val (.int p2), .val (.int p3), .val (.int p4), .val (.int p5), .val (.int p6), .val (.int (1 : Int32)), .val (.int f0), .val (.int f1), .val (.int f2), .val (.ref b22), .val (.ref b23), .val (.int tot), .val (.int (1 : Int32)), .val (.ref b35), .unset, .unset] [(.int (1 : Int32)), (.int tot)])) t → Steps p.tables e below (s₁.setTop (entryFrame m #[(.int p1), (.int p2), (.int p3), (.int p4), (.int p5), (.int p6)] maxLocals)) t := fun t k => pre29 t (by
        show Steps p.tables e below (T27.setTop (mkF m 131 #[.val (.int p1), .val (.int p2), .val (.int p3), .val (.int p4), .val (.int p5), .val (.int p6), .val (.int (1 : Int32)), .val (.int f0), .val (.int f1), .val (.int f2), .val (.ref b22), .val (.ref b23), .val (.int tot), .unset, .unset, .unset, .unset] [(.int (p6 &&& (1 : Int32)))])) _
        refine XS.ifNo X27.here hx rfl (hb hby at_131) rfl ((if0 _ _).trans (feq ((own_ne0 hp) : ¬ ((p6 &&& (1 : Int32)) = (0 : Int32)))).1) ?_
        show Steps p.tables e below (T27.setTop (mkF m 134 #[.val (.int p1), .val (.int p2), .val (.int p3), .val (.int p4), .val (.int p5), .val (.int p6), .val (.int (1 : Int32)), .val (.int f0), .val (.int f1), .val (.int f2), .val (.ref b22), .val (.ref b23), .val (.int tot), .unset, .unset, .unset, .unset] [])) _
        refine XS.iconst X27.here hx rfl (hb hby at_134) ?_
        show Steps p.tables e below (T27.setTop (mkF m 135 #[.val (.int p1), .val (.int p2), .val (.int p3), .val (.int p4), .val (.int p5), .val (.int p6), .val (.int (1 : Int32)), .val (.int f0), .val (.int f1), .val (.int f2), .val (.ref b22), .val (.ref b23), .val (.int tot), .unset, .unset, .unset, .unset] [(.int (1 : Int32))])) _
        refine XS.goto X27.here hx rfl (pc0 := 135) (pc' := 139) rfl (hb hby at_135) (by decide) (by decide) ?_
        show Steps p.tables e below (T27.setTop (mkF m 139 #[.val (.int p1), .val (.int p2), .val (.int p3), .val (.int p4), .val (.int p5), .val (.int p6), .val (.int (1 : Int32)), .val (.int f0), .val (.int f1), .val (.int f2), .val (.ref b22), .val (.ref b23), .val (.int tot), .unset, .unset, .unset, .unset] [(.int (1 : Int32))])) _
        refine XS.istore X27.here hx rfl (hb hby at_139) rfl (l' := #[.val (.int p1), .val (.int p2), .val (.int p3), .val (.int p4), .val (.int p5), .val (.int p6), .val (.int (1 : Int32)), .val (.int f0), .val (.int f1), .val (.int f2), .val (.ref b22), .val (.ref b23), .val (.int tot), .val (.int (1 : Int32)), .unset, .unset, .unset]) rfl ?_
        show Steps p.tables e below (T27.setTop (mkF m 141 #[.val (.int p1), .val (.int p2), .val (.int p3), .val (.int p4), .val (.int p5), .val (.int p6), .val (.int (1 : Int32)), .val (.int f0), .val (.int f1), .val (.int f2), .val (.ref b22), .val (.ref b23), .val (.int tot), .val (.int (1 : Int32)), .unset, .unset, .unset] [])) _
        refine XS.aconstNull X27.here hx rfl (hb hby at_141) ?_
        show Steps p.tables e below (T27.setTop (mkF m 142 #[.val (.int p1), .val (.int p2), .val (.int p3), .val (.int p4), .val (.int p5), .val (.int p6), .val (.int (1 : Int32)), .val (.int f0), .val (.int f1), .val (.int f2), .val (.ref b22), .val (.ref b23), .val (.int tot), .val (.int (1 : Int32)), .unset, .unset, .unset] [.null])) _
        refine XS.astore X27.here hx rfl (hb hby at_142) rfl rfl (l' := #[.val (.int p1), .val (.int p2), .val (.int p3), .val (.int p4), .val (.int p5), .val (.int p6), .val (.int (1 : Int32)), .val (.int f0), .val (.int f1), .val (.int f2), .val (.ref b22), .val (.ref b23), .val (.int tot), .val (.int (1 : Int32)), .val .null, .unset, .unset]) rfl ?_
        show Steps p.tables e below (T27.setTop (mkF m 144 #[.val (.int p1), .val (.int p2), .val (.int p3), .val (.int p4), .val (.int p5), .val (.int p6), .val (.int (1 : Int32)), .val (.int f0), .val (.int f1), .val (.int f2), .val (.ref b22), .val (.ref b23), .val (.int tot), .val (.int (1 : Int32)), .val .null, .unset, .unset] [])) _
        refine XS.iload X27.here hx rfl (hb hby at_144) rfl ?_
        show Steps p.tables e below (T27.setTop (mkF m 146 #[.val (.int p1), .val (.int p2), .val (.int p3), .val (.int p4), .val (.int p5), .val (.int p6), .val (.int (1 : Int32)), .val (.int f0), .val (.int f1), .val (.int f2), .val (.ref b22), .val (.ref b23), .val (.int tot), .val (.int (1 : Int32)), .val .null, .unset, .unset] [(.int (1 : Int32))])) _
        refine XS.ifNo X27.here hx rfl (hb hby at_146) rfl ((if0 _ _).trans (feq ((by decide) : ¬ ((1 : Int32) = (0 : Int32)))).1) ?_
        show Steps p.tables e below (T27.setTop (mkF m 149 #[.val (.int p1), .val (.int p2), .val (.int p3), .val (.int p4), .val (.int p5), .val (.int p6), .val (.int (1 : Int32)), .val (.int f0), .val (.int f1), .val (.int f2), .val (.ref b22), .val (.ref b23), .val (.int tot), .val (.int (1 : Int32)), .val .null, .unset, .unset] [])) _
        refine XS.iload X27.here hx rfl (hb hby at_149) rfl ?_
        show Steps p.tables e below (T27.setTop (mkF m 151 #[.val (.int p1), .val (.int p2), .val (.int p3), .val (.int p4), .val (.int p5), .val (.int p6), .val (.int (1 : Int32)), .val (.int f0), .val (.int f1), .val (.int f2), .val (.ref b22), .val (.ref b23), .val (.int tot), .val (.int (1 : Int32)), .val .null, .unset, .unset] [(.int tot)])) _
        refine st35 _ ?_
        show Steps p.tables e below (T35.setTop (mkF m 153 #[.val (.int p1), .val (.int p2), .val (.int p3), .val (.int p4), .val (.int p5), .val (.int p6), .val (.int (1 : Int32)), .val (.int f0), .val (.int f1), .val (.int f2), .val (.ref b22), .val (.ref b23), .val (.int tot), .val (.int (1 : Int32)), .val .null, .unset, .unset] [(.ref b35)])) _
        refine XS.astore X35.here hx rfl (hb hby at_153) rfl rfl (l' := #[.val (.int p1), .val (.int p2), .val (.int p3), .val (.int p4), .val (.int p5), .val (.int p6), .val (.int (1 : Int32)), .val (.int f0), .val (.int f1), .val (.int f2), .val (.ref b22), .val (.ref b23), .val (.int tot), .val (.int (1 : Int32)), .val (.ref b35), .unset, .unset]) rfl ?_
        show Steps p.tables e below (T35.setTop (mkF m 155 #[.val (.int p1), .val (.int p2), .val (.int p3), .val (.int p4), .val (.int p5), .val (.int p6), .val (.int (1 : Int32)), .val (.int f0), .val (.int f1), .val (.int f2), .val (.ref b22), .val (.ref b23), .val (.int tot), .val (.int (1 : Int32)), .val (.ref b35), .unset, .unset] [])) _
        refine XS.iload X35.here hx rfl (hb hby at_155) rfl ?_
        show Steps p.tables e below (T35.setTop (mkF m 157 #[.val (.int p1), .val (.int p2), .val (.int p3), .val (.int p4), .val (.int p5), .val (.int p6), .val (.int (1 : Int32)), .val (.int f0), .val (.int f1), .val (.int f2), .val (.ref b22), .val (.ref b23), .val (.int tot), .val (.int (1 : Int32)), .val (.ref b35), .unset, .unset] [(.int tot)])) _
        refine XS.ifNo X35.here hx rfl (hb hby at_157) rfl ((if0 _ _).trans (tlt ((own_tpos htot) : (0 : Int32) < tot)).2.2.2) ?_
        show Steps p.tables e below (T35.setTop (mkF m 160 #[.val (.int p1), .val (.int p2), .val (.int p3), .val (.int p4), .val (.int p5), .val (.int p6), .val (.int (1 : Int32)), .val (.int f0), .val (.int f1), .val (.int f2), .val (.ref b22), .val (.ref b23), .val (.int tot), .val (.int (1 : Int32)), .val (.ref b35), .unset, .unset] [])) _
        refine XS.aload X35.here hx rfl (hb hby at_160) rfl rfl ?_
        show Steps p.tables e below (T35.setTop (mkF m 162 #[.val (.int p1), .val (.int p2), .val (.int p3), .val (.int p4), .val (.int p5), .val (.int p6), .val (.int (1 : Int32)), .val (.int f0), .val (.int f1), .val (.int f2), .val (.ref b22), .val (.ref b23), .val (.int tot), .val (.int (1 : Int32)), .val (.ref b35), .unset, .unset] [(.ref b35)])) _
        refine XS.iconst X35.here hx rfl (hb hby at_162) ?_
        show Steps p.tables e below (T35.setTop (mkF m 163 #[.val (.int p1), .val (.int p2), .val (.int p3), .val (.int p4), .val (.int p5), .val (.int p6), .val (.int (1 : Int32)), .val (.int f0), .val (.int f1), .val (.int f2), .val (.ref b22), .val (.ref b23), .val (.int tot), .val (.int (1 : Int32)), .val (.ref b35), .unset, .unset] [(.int (0 : Int32)), (.ref b35)])) _
        refine XS.iload X35.here hx rfl (hb hby at_163) rfl ?_
        show Steps p.tables e below (T35.setTop (mkF m 165 #[.val (.int p1), .val (.int p2), .val (.int p3), .val (.int p4), .val (.int p5), .val (.int p6), .val (.int (1 : Int32)), .val (.int f0), .val (.int f1), .val (.int f2), .val (.ref b22), .val (.ref b23), .val (.int tot), .val (.int (1 : Int32)), .val (.ref b35), .unset, .unset] [(.int p5), (.int (0 : Int32)), (.ref b35)])) _
        refine st37 _ ?_
        show Steps p.tables e below (T37.setTop (mkF m 166 #[.val (.int p1), .val (.int p2), .val (.int p3), .val (.int p4), .val (.int p5), .val (.int p6), .val (.int (1 : Int32)), .val (.int f0), .val (.int f1), .val (.int f2), .val (.ref b22), .val (.ref b23), .val (.int tot), .val (.int (1 : Int32)), .val (.ref b35), .unset, .unset] [])) _
        refine XS.iload X37.here hx rfl (hb hby at_166) rfl ?_
        show Steps p.tables e below (T37.setTop (mkF m 168 #[.val (.int p1), .val (.int p2), .val (.int p3), .val (.int p4), .val (.int p5), .val (.int p6), .val (.int (1 : Int32)), .val (.int f0), .val (.int f1), .val (.int f2), .val (.ref b22), .val (.ref b23), .val (.int tot), .val (.int (1 : Int32)), .val (.ref b35), .unset, .unset] [(.int tot)])) _
        refine XS.iconst X37.here hx rfl (hb hby at_168) ?_
        exact k)
      by_cases ht1 : (1 : Int32) < tot
      · obtain ⟨cl39, Ar39, q39, S39, M39, H39, G39⟩ := (V_b35_37 : Arh Z h37 b35 k35 .int tot [] [(.int p5)] (.int (0 : Int32)))
        have hin39 : ¬ ((tot - (1 : Int32)) < 0 ∨ cl39.slots.size ≤ ((tot - (1 : Int32))).toNatClampNeg) := inb_of S39 (own_tlast ht1)
        obtain ⟨T40, h40, X40, e40, W40, st40⟩ := stI X37 hx hZ e37 Ar39 (j := (tot - (1 : Int32))) hin39 (g := (mkF m 180 #[.val (.int p1), .val (.int p2), .val (.int p3), .val (.int p4), .val (.int p5), .val (.int p6), .val (.int (1 : Int32)), .val (.int f0), .val (.int f1), .val (.int f2), .val (.ref b22), .val (.ref b23), .val (.int tot), .val (.int (1 : Int32)), .val (.ref b35), .unset, .unset] [(.int p5), (.int (tot - (1 : Int32))), (.ref b35)])) rfl rfl (hb hby at_180)
        have V_b35_40 : Arh Z h40 b35 k35 .int tot [((tot - (1 : Int32)), (.int p5))] [(.int p5)] (.int (0 : Int32)) := Arh.push Ar39 q39 S39 M39 H39 G39 rfl W40 hin39
        have V40_0 := V37_0.other W40 ne_b22_b35
        have V40_1 := V37_1.other W40 ne_b23_b35
        have z40 : n0 ≤ h40.size := by rw [W40.size]; exact z37
        have N40 := Fr.snoc X40 N37 g_b35
        obtain ⟨T41, h41, X41, e41, E41, A41, D41, -, st41⟩ := newO X40 hx hZ hown (hw _ (List.mem_of_getElem? (i := 1) rfl)) (hw _ (List.mem_of_getElem? (i := 2) rfl)) (hw _ (List.mem_of_getElem? (i := 3) rfl)) e40 (g := (mkF m 181 #[.val (.int p1), .val (.int p2), .val (.int p3), .val (.int p4), .val (.int p5), .val (.int p6), .val (.int (1 : Int32)), .val (.int f0), .val (.int f1), .val (.int f2), .val (.ref b22), .val (.ref b23), .val (.int tot), .val (.int (1 : Int32)), .val (.ref b35), .unset, .unset] [])) rfl (hb hby at_181) (by decide) (by decide)
        obtain ⟨b41, g41⟩ : ∃ z, z = h40.size := ⟨_, rfl⟩
        rw [← g41] at A41 D41 st41
        have ne_b22_b41 : b22 ≠ b41 := Nat.ne_of_lt (Nat.lt_of_lt_of_le (V40_0).lt (Nat.le_of_eq g41.symm))
        have ne_b23_b41 : b23 ≠ b41 := Nat.ne_of_lt (Nat.lt_of_lt_of_le (V40_1).lt (Nat.le_of_eq g41.symm))
        have ne_b35_b41 : b35 ≠ b41 := Nat.ne_of_lt (Nat.lt_of_lt_of_le (V_b35_40).lt (Nat.le_of_eq g41.symm))
        have g_b41 : n0 ≤ b41 := Nat.le_trans z40 (Nat.le_of_eq g41.symm)
        have V41_0 := V40_0.ext E41
        have V41_1 := V40_1.ext E41
        have V41_2 := V_b35_40.ext E41
        have z41 : n0 ≤ h41.size := Nat.le_trans z40 E41.1
        have F_documents_b41 : Fld Z h41 b41 "com/example/cranfield/cranfield/index/Postings" "documents" "[I" .null := D41 (Or.inr (hw _ (List.mem_of_getElem? (i := 11) rfl))) (ty := (.array .int)) (by decide)
        have F_frequencies_b41 : Fld Z h41 b41 "com/example/cranfield/cranfield/index/Postings" "frequencies" "[I" .null := D41 (Or.inr (hw _ (List.mem_of_getElem? (i := 13) rfl))) (ty := (.array .int)) (by decide)
        have F_positions_b41 : Fld Z h41 b41 "com/example/cranfield/cranfield/index/Postings" "positions" "[I" .null := D41 (Or.inr (hw _ (List.mem_of_getElem? (i := 15) rfl))) (ty := (.array .int)) (by decide)
        have F_firstPositions_b41 : Fld Z h41 b41 "com/example/cranfield/cranfield/index/Postings" "firstPositions" "[I" .null := D41 (Or.inr (hw _ (List.mem_of_getElem? (i := 17) rfl))) (ty := (.array .int)) (by decide)
        obtain ⟨_, _, ⟨T42, L42, k42, n42⟩, -, X42, ⟨Lc42, hQ42, l42, y42, z42⟩, st42⟩ := X41.specialBack hx (y := (⟨"com/example/cranfield/cranfield/index/Postings", "<init>", "([I[I[I)V"⟩ : MethodName)) rfl hown (mvT hZ (hw _ (List.mem_of_getElem? (i := 4) rfl))) (mvT hZ (hw _ (List.mem_of_getElem? (i := 5) rfl))) (mvT hZ (hw _ (List.mem_of_getElem? (i := 6) rfl))) (by decide) (backOf (W := 1) (rmI1 l Z a0 hw [] b41 b22 b23 b35 k22 k23 f0 h41 n0 z41 A41 g_b41 F_documents_b41 F_frequencies_b41 F_positions_b41 F_firstPositions_b41 V41_0 V41_1 (Ne.symm ne_b22_b41) (Ne.symm ne_b23_b41)) hZ (hw _ (List.mem_of_getElem? (i := 6) rfl)) (hw _ (List.mem_of_getElem? (i := 3) rfl)) (by decide) (by decide)) (g := (mkF m 191 #[.val (.int p1), .val (.int p2), .val (.int p3), .val (.int p4), .val (.int p5), .val (.int p6), .val (.int (1 : Int32)), .val (.int f0), .val (.int f1), .val (.int f2), .val (.ref b22), .val (.ref b23), .val (.int tot), .val (.int (1 : Int32)), .val (.ref b35), .unset, .unset] [(.ref b35), (.ref b23), (.ref b22), (.ref b41), (.ref b41)])) rfl (by rw [hml]; rfl) (Steps.refl _) (a := b41) (argsL := [(.ref b22), (.ref b23), (.ref b35)]) (rest := [(.ref b41)]) (lenOf own_pd0 rfl) rfl (by show 2 * 0 + _ ≤ _; exact Nat.le_of_eq rfl) (hb hby at_191) (fun _ _ => ⟨rfl, e41, (by decide : 4 + 1 ≤ _), (by decide : 18 + 1 ≤ _)⟩)
        dsimp only [Pt.U, Pt.locs, Pt.cells, Pt.slots] at X42 l42 y42 z42 st42 hQ42
        subst l42 y42 z42
        obtain ⟨h42, e42⟩ : ∃ z, T42.heap = z := ⟨_, rfl⟩
        rw [e42] at hQ42
        obtain ⟨rfl, N42q, Kc42, fp42⟩ := hQ42
        have N42 := Fr.app N40 N42q
        have X42_693 := A41.keep Kc42
        have V42_694 := V41_0.keep Kc42 (ninS ne_b22_b41 nin0)
        have V42_695 := V41_1.keep Kc42 (ninS ne_b23_b41 nin0)
        have V42_696 := V41_2.keep Kc42 (ninS ne_b35_b41 nin0)
        have z42 : n0 ≤ h42.size := Nat.le_trans z41 Kc42.1
        obtain ⟨cq43, kq43, q43a, q43b, q43c⟩ := isOf hZ e42 X42_693
        obtain ⟨_, _, ⟨T43, L43, k43, n43⟩, -, X43, ⟨Lc43, hQ43, l43, y43, z43⟩, st43⟩ := X42.virtualBack hx (y := (⟨"com/example/cranfield/cranfield/index/Postings", "positionCount", "()I"⟩ : MethodName)) (z := (⟨"com/example/cranfield/cranfield/index/Postings", "positionCount", "()I"⟩ : MethodName)) hown (mvT hZ (hw _ (List.mem_of_getElem? (i := 18) rfl))) (mvT hZ (hw _ (List.mem_of_getElem? (i := 19) rfl))) (notFace_of_selects (args := #[]) (mvT hZ (hw _ (List.mem_of_getElem? (i := 21) rfl)))) (mvT hZ (hw _ (List.mem_of_getElem? (i := 21) rfl))) (mvT hZ (hw _ (List.mem_of_getElem? (i := 20) rfl))) (by decide) (backOf (W := 0) (rmPr l Z a0 hw [] b41 b35 k35 tot [((tot - (1 : Int32)), (.int p5))] [(.int p5)] (.int (0 : Int32)) h42 n0 z42 fp42 V42_696) hZ (hw _ (List.mem_of_getElem? (i := 22) rfl)) (hw _ (List.mem_of_getElem? (i := 3) rfl)) (by decide) (by decide)) q43a q43c (g := (mkF m 198 #[.val (.int p1), .val (.int p2), .val (.int p3), .val (.int p4), .val (.int p5), .val (.int p6), .val (.int (1 : Int32)), .val (.int f0), .val (.int f1), .val (.int f2), .val (.ref b22), .val (.ref b23), .val (.int tot), .val (.int (1 : Int32)), .val (.ref b35), .val (.ref b41), .unset] [(.ref b41)])) rfl (by rw [hml]; rfl) (Steps.refl _) (argsL := []) (rest := []) (lenOf own_pd1 rfl) rfl (by show 2 * 0 + _ ≤ _; exact Nat.le_of_eq rfl) (hb hby at_198) (fun _ _ => ⟨rfl, e42, (by decide : 5 + 0 ≤ _), (by decide : 19 + 0 ≤ _)⟩)
        dsimp only [Pt.U, Pt.locs, Pt.cells, Pt.slots] at X43 l43 y43 z43 st43 hQ43
        subst l43 y43 z43
        obtain ⟨rfl, N43q, e43⟩ := hQ43
        have N43 := Fr.app N42 N43q
        obtain ⟨cq44, kq44, q44a, q44b, q44c⟩ := isOf hZ e43 X42_693
        obtain ⟨_, _, ⟨T44, L44, k44, n44⟩, -, X44, ⟨Lc44, hQ44, l44, y44, z44⟩, st44⟩ := X43.virtualBack hx (y := (⟨"com/example/cranfield/cranfield/index/Postings", "hasPositions", "()Z"⟩ : MethodName)) (z := (⟨"com/example/cranfield/cranfield/index/Postings", "hasPositions", "()Z"⟩ : MethodName)) hown (mvT hZ (hw _ (List.mem_of_getElem? (i := 23) rfl))) (mvT hZ (hw _ (List.mem_of_getElem? (i := 24) rfl))) (notFace_of_selects (args := #[]) (mvT hZ (hw _ (List.mem_of_getElem? (i := 26) rfl)))) (mvT hZ (hw _ (List.mem_of_getElem? (i := 26) rfl))) (mvT hZ (hw _ (List.mem_of_getElem? (i := 25) rfl))) (by decide) (backOf (W := 0) (rmHr l Z a0 hw [] b41 b35 h42 n0 z42 fp42) hZ (hw _ (List.mem_of_getElem? (i := 27) rfl)) (hw _ (List.mem_of_getElem? (i := 3) rfl)) (by decide) (by decide)) q44a q44c (g := (mkF m 205 #[.val (.int p1), .val (.int p2), .val (.int p3), .val (.int p4), .val (.int p5), .val (.int p6), .val (.int (1 : Int32)), .val (.int f0), .val (.int f1), .val (.int f2), .val (.ref b22), .val (.ref b23), .val (.int tot), .val (.int (1 : Int32)), .val (.ref b35), .val (.ref b41), .val (.int tot)] [(.ref b41)])) rfl (by rw [hml]; rfl) (Steps.refl _) (argsL := []) (rest := []) (lenOf own_pd2 rfl) rfl (by show 2 * 0 + _ ≤ _; exact Nat.le_of_eq rfl) (hb hby at_205) (fun _ _ => ⟨rfl, e43, (by decide : 5 + 0 ≤ _), (by decide : 19 + 0 ≤ _)⟩)
        dsimp only [Pt.U, Pt.locs, Pt.cells, Pt.slots] at X44 l44 y44 z44 st44 hQ44
        subst l44 y44 z44
        obtain ⟨rfl, N44q, e44⟩ := hQ44
        have N44 := Fr.app N43 N44q
        have pre45 : ∀ t, Steps p.tables e below (T44.setTop (mkF m 232 #[.val (.int p1), .val (.int p2), .val (.int p3), .val (.int p4), .val (.int p5), .val (.int p6), .val (.int (1 : Int32)), .val (.int f0), .val (.int f1), .val (.int f2), .val (.ref b22), .val (.ref b23), .val (.int tot), .val (.int (1 : Int32)), .val (.ref b35), .val (.ref b41), .val (.int tot)] [(.int (1 : Int32))])) t → Steps p.tables e below (s₁.setTop (entryFrame m #[(.int p1), (.int p2), (.int p3), (.int p4), (.int p5), (.int p6)] maxLocals)) t := fun t k => pre38 t (by
          show Steps p.tables e below (T37.setTop (mkF m 169 #[.val (.int p1), .val (.int p2), .val (.int p3), .val (.int p4), .val (.int p5), .val (.int p6), .val (.int (1 : Int32)), .val (.int f0), .val (.int f1), .val (.int f2), .val (.ref b22), .val (.ref b23), .val (.int tot), .val (.int (1 : Int32)), .val (.ref b35), .unset, .unset] [(.int (1 : Int32)), (.int tot)])) _
          refine XS.icmpNo X37.here hx rfl (hb hby at_169) rfl (tlt (ht1 : (1 : Int32) < tot)).2.2.2 ?_
          show Steps p.tables e below (T37.setTop (mkF m 172 #[.val (.int p1), .val (.int p2), .val (.int p3), .val (.int p4), .val (.int p5), .val (.int p6), .val (.int (1 : Int32)), .val (.int f0), .val (.int f1), .val (.int f2), .val (.ref b22), .val (.ref b23), .val (.int tot), .val (.int (1 : Int32)), .val (.ref b35), .unset, .unset] [])) _
          refine XS.aload X37.here hx rfl (hb hby at_172) rfl rfl ?_
          show Steps p.tables e below (T37.setTop (mkF m 174 #[.val (.int p1), .val (.int p2), .val (.int p3), .val (.int p4), .val (.int p5), .val (.int p6), .val (.int (1 : Int32)), .val (.int f0), .val (.int f1), .val (.int f2), .val (.ref b22), .val (.ref b23), .val (.int tot), .val (.int (1 : Int32)), .val (.ref b35), .unset, .unset] [(.ref b35)])) _
          refine XS.iload X37.here hx rfl (hb hby at_174) rfl ?_
          show Steps p.tables e below (T37.setTop (mkF m 176 #[.val (.int p1), .val (.int p2), .val (.int p3), .val (.int p4), .val (.int p5), .val (.int p6), .val (.int (1 : Int32)), .val (.int f0), .val (.int f1), .val (.int f2), .val (.ref b22), .val (.ref b23), .val (.int tot), .val (.int (1 : Int32)), .val (.ref b35), .unset, .unset] [(.int tot), (.ref b35)])) _
          refine XS.iconst X37.here hx rfl (hb hby at_176) ?_
          show Steps p.tables e below (T37.setTop (mkF m 177 #[.val (.int p1), .val (.int p2), .val (.int p3), .val (.int p4), .val (.int p5), .val (.int p6), .val (.int (1 : Int32)), .val (.int f0), .val (.int f1), .val (.int f2), .val (.ref b22), .val (.ref b23), .val (.int tot), .val (.int (1 : Int32)), .val (.ref b35), .unset, .unset] [(.int (1 : Int32)), (.int tot), (.ref b35)])) _
          refine XS.isub X37.here hx rfl (hb hby at_177) rfl ?_
          show Steps p.tables e below (T37.setTop (mkF m 178 #[.val (.int p1), .val (.int p2), .val (.int p3), .val (.int p4), .val (.int p5), .val (.int p6), .val (.int (1 : Int32)), .val (.int f0), .val (.int f1), .val (.int f2), .val (.ref b22), .val (.ref b23), .val (.int tot), .val (.int (1 : Int32)), .val (.ref b35), .unset, .unset] [(.int (tot - (1 : Int32))), (.ref b35)])) _
          refine XS.iload X37.here hx rfl (hb hby at_178) rfl ?_
          show Steps p.tables e below (T37.setTop (mkF m 180 #[.val (.int p1), .val (.int p2), .val (.int p3), .val (.int p4), .val (.int p5), .val (.int p6), .val (.int (1 : Int32)), .val (.int f0), .val (.int f1), .val (.int f2), .val (.ref b22), .val (.ref b23), .val (.int tot), .val (.int (1 : Int32)), .val (.ref b35), .unset, .unset] [(.int p5), (.int (tot - (1 : Int32))), (.ref b35)])) _
          refine st40 _ ?_
          show Steps p.tables e below (T40.setTop (mkF m 181 #[.val (.int p1), .val (.int p2), .val (.int p3), .val (.int p4), .val (.int p5), .val (.int p6), .val (.int (1 : Int32)), .val (.int f0), .val (.int f1), .val (.int f2), .val (.ref b22), .val (.ref b23), .val (.int tot), .val (.int (1 : Int32)), .val (.ref b35), .unset, .unset] [])) _
          refine st41 _ ?_
          show Steps p.tables e below (T41.setTop (mkF m 184 #[.val (.int p1), .val (.int p2), .val (.int p3), .val (.int p4), .val (.int p5), .val (.int p6), .val (.int (1 : Int32)), .val (.int f0), .val (.int f1), .val (.int f2), .val (.ref b22), .val (.ref b23), .val (.int tot), .val (.int (1 : Int32)), .val (.ref b35), .unset, .unset] [(.ref b41)])) _
          refine XS.dup X41.here hx rfl (hb hby at_184) rfl rfl ?_
          show Steps p.tables e below (T41.setTop (mkF m 185 #[.val (.int p1), .val (.int p2), .val (.int p3), .val (.int p4), .val (.int p5), .val (.int p6), .val (.int (1 : Int32)), .val (.int f0), .val (.int f1), .val (.int f2), .val (.ref b22), .val (.ref b23), .val (.int tot), .val (.int (1 : Int32)), .val (.ref b35), .unset, .unset] [(.ref b41), (.ref b41)])) _
          refine XS.aload X41.here hx rfl (hb hby at_185) rfl rfl ?_
          show Steps p.tables e below (T41.setTop (mkF m 187 #[.val (.int p1), .val (.int p2), .val (.int p3), .val (.int p4), .val (.int p5), .val (.int p6), .val (.int (1 : Int32)), .val (.int f0), .val (.int f1), .val (.int f2), .val (.ref b22), .val (.ref b23), .val (.int tot), .val (.int (1 : Int32)), .val (.ref b35), .unset, .unset] [(.ref b22), (.ref b41), (.ref b41)])) _
          refine XS.aload X41.here hx rfl (hb hby at_187) rfl rfl ?_
          show Steps p.tables e below (T41.setTop (mkF m 189 #[.val (.int p1), .val (.int p2), .val (.int p3), .val (.int p4), .val (.int p5), .val (.int p6), .val (.int (1 : Int32)), .val (.int f0), .val (.int f1), .val (.int f2), .val (.ref b22), .val (.ref b23), .val (.int tot), .val (.int (1 : Int32)), .val (.ref b35), .unset, .unset] [(.ref b23), (.ref b22), (.ref b41), (.ref b41)])) _
          refine XS.aload X41.here hx rfl (hb hby at_189) rfl rfl ?_
          show Steps p.tables e below (T41.setTop (mkF m 191 #[.val (.int p1), .val (.int p2), .val (.int p3), .val (.int p4), .val (.int p5), .val (.int p6), .val (.int (1 : Int32)), .val (.int f0), .val (.int f1), .val (.int f2), .val (.ref b22), .val (.ref b23), .val (.int tot), .val (.int (1 : Int32)), .val (.ref b35), .unset, .unset] [(.ref b35), (.ref b23), (.ref b22), (.ref b41), (.ref b41)])) _
          refine st42.trans ?_
          show Steps p.tables e below (T42.setTop (mkF m 194 #[.val (.int p1), .val (.int p2), .val (.int p3), .val (.int p4), .val (.int p5), .val (.int p6), .val (.int (1 : Int32)), .val (.int f0), .val (.int f1), .val (.int f2), .val (.ref b22), .val (.ref b23), .val (.int tot), .val (.int (1 : Int32)), .val (.ref b35), .unset, .unset] [(.ref b41)])) _
          refine XS.astore X42.here hx rfl (hb hby at_194) rfl rfl (l' := #[.val (.int p1), .val (.int p2), .val (.int p3), .val (.int p4), .val (.int p5), .val (.int p6), .val (.int (1 : Int32)), .val (.int f0), .val (.int f1), .val (.int f2), .val (.ref b22), .val (.ref b23), .val (.int tot), .val (.int (1 : Int32)), .val (.ref b35), .val (.ref b41), .unset]) rfl ?_
          show Steps p.tables e below (T42.setTop (mkF m 196 #[.val (.int p1), .val (.int p2), .val (.int p3), .val (.int p4), .val (.int p5), .val (.int p6), .val (.int (1 : Int32)), .val (.int f0), .val (.int f1), .val (.int f2), .val (.ref b22), .val (.ref b23), .val (.int tot), .val (.int (1 : Int32)), .val (.ref b35), .val (.ref b41), .unset] [])) _
          refine XS.aload X42.here hx rfl (hb hby at_196) rfl rfl ?_
          show Steps p.tables e below (T42.setTop (mkF m 198 #[.val (.int p1), .val (.int p2), .val (.int p3), .val (.int p4), .val (.int p5), .val (.int p6), .val (.int (1 : Int32)), .val (.int f0), .val (.int f1), .val (.int f2), .val (.ref b22), .val (.ref b23), .val (.int tot), .val (.int (1 : Int32)), .val (.ref b35), .val (.ref b41), .unset] [(.ref b41)])) _
          refine st43.trans ?_
          show Steps p.tables e below (T43.setTop (mkF m 201 #[.val (.int p1), .val (.int p2), .val (.int p3), .val (.int p4), .val (.int p5), .val (.int p6), .val (.int (1 : Int32)), .val (.int f0), .val (.int f1), .val (.int f2), .val (.ref b22), .val (.ref b23), .val (.int tot), .val (.int (1 : Int32)), .val (.ref b35), .val (.ref b41), .unset] [(.int tot)])) _
          refine XS.istore X43.here hx rfl (hb hby at_201) rfl (l' := #[.val (.int p1), .val (.int p2), .val (.int p3), .val (.int p4), .val (.int p5), .val (.int p6), .val (.int (1 : Int32)), .val (.int f0), .val (.int f1), .val (.int f2), .val (.ref b22), .val (.ref b23), .val (.int tot), .val (.int (1 : Int32)), .val (.ref b35), .val (.ref b41), .val (.int tot)]) rfl ?_
          show Steps p.tables e below (T43.setTop (mkF m 203 #[.val (.int p1), .val (.int p2), .val (.int p3), .val (.int p4), .val (.int p5), .val (.int p6), .val (.int (1 : Int32)), .val (.int f0), .val (.int f1), .val (.int f2), .val (.ref b22), .val (.ref b23), .val (.int tot), .val (.int (1 : Int32)), .val (.ref b35), .val (.ref b41), .val (.int tot)] [])) _
          refine XS.aload X43.here hx rfl (hb hby at_203) rfl rfl ?_
          show Steps p.tables e below (T43.setTop (mkF m 205 #[.val (.int p1), .val (.int p2), .val (.int p3), .val (.int p4), .val (.int p5), .val (.int p6), .val (.int (1 : Int32)), .val (.int f0), .val (.int f1), .val (.int f2), .val (.ref b22), .val (.ref b23), .val (.int tot), .val (.int (1 : Int32)), .val (.ref b35), .val (.ref b41), .val (.int tot)] [(.ref b41)])) _
          refine st44.trans ?_
          show Steps p.tables e below (T44.setTop (mkF m 208 #[.val (.int p1), .val (.int p2), .val (.int p3), .val (.int p4), .val (.int p5), .val (.int p6), .val (.int (1 : Int32)), .val (.int f0), .val (.int f1), .val (.int f2), .val (.ref b22), .val (.ref b23), .val (.int tot), .val (.int (1 : Int32)), .val (.ref b35), .val (.ref b41), .val (.int tot)] [(.int (1 : Int32))])) _
          refine XS.iload X44.here hx rfl (hb hby at_208) rfl ?_
          show Steps p.tables e below (T44.setTop (mkF m 210 #[.val (.int p1), .val (.int p2), .val (.int p3), .val (.int p4), .val (.int p5), .val (.int p6), .val (.int (1 : Int32)), .val (.int f0), .val (.int f1), .val (.int f2), .val (.ref b22), .val (.ref b23), .val (.int tot), .val (.int (1 : Int32)), .val (.ref b35), .val (.ref b41), .val (.int tot)] [(.int (1 : Int32)), (.int (1 : Int32))])) _
          refine XS.icmpYes X44.here hx rfl (pc0 := 210) (pc' := 215) rfl (hb hby at_210) rfl (teq ((by decide) : (1 : Int32) = (1 : Int32))).1 (by decide) (by decide) ?_
          show Steps p.tables e below (T44.setTop (mkF m 215 #[.val (.int p1), .val (.int p2), .val (.int p3), .val (.int p4), .val (.int p5), .val (.int p6), .val (.int (1 : Int32)), .val (.int f0), .val (.int f1), .val (.int f2), .val (.ref b22), .val (.ref b23), .val (.int tot), .val (.int (1 : Int32)), .val (.ref b35), .val (.ref b41), .val (.int tot)] [])) _
          refine XS.iload X44.here hx rfl (hb hby at_215) rfl ?_
          show Steps p.tables e below (T44.setTop (mkF m 217 #[.val (.int p1), .val (.int p2), .val (.int p3), .val (.int p4), .val (.int p5), .val (.int p6), .val (.int (1 : Int32)), .val (.int f0), .val (.int f1), .val (.int f2), .val (.ref b22), .val (.ref b23), .val (.int tot), .val (.int (1 : Int32)), .val (.ref b35), .val (.ref b41), .val (.int tot)] [(.int (1 : Int32))])) _
          refine XS.ifNo X44.here hx rfl (hb hby at_217) rfl ((if0 _ _).trans (feq ((by decide) : ¬ ((1 : Int32) = (0 : Int32)))).1) ?_
          show Steps p.tables e below (T44.setTop (mkF m 220 #[.val (.int p1), .val (.int p2), .val (.int p3), .val (.int p4), .val (.int p5), .val (.int p6), .val (.int (1 : Int32)), .val (.int f0), .val (.int f1), .val (.int f2), .val (.ref b22), .val (.ref b23), .val (.int tot), .val (.int (1 : Int32)), .val (.ref b35), .val (.ref b41), .val (.int tot)] [])) _
          refine XS.iload X44.here hx rfl (hb hby at_220) rfl ?_
          show Steps p.tables e below (T44.setTop (mkF m 222 #[.val (.int p1), .val (.int p2), .val (.int p3), .val (.int p4), .val (.int p5), .val (.int p6), .val (.int (1 : Int32)), .val (.int f0), .val (.int f1), .val (.int f2), .val (.ref b22), .val (.ref b23), .val (.int tot), .val (.int (1 : Int32)), .val (.ref b35), .val (.ref b41), .val (.int tot)] [(.int tot)])) _
          refine XS.iload X44.here hx rfl (hb hby at_222) rfl ?_
          show Steps p.tables e below (T44.setTop (mkF m 224 #[.val (.int p1), .val (.int p2), .val (.int p3), .val (.int p4), .val (.int p5), .val (.int p6), .val (.int (1 : Int32)), .val (.int f0), .val (.int f1), .val (.int f2), .val (.ref b22), .val (.ref b23), .val (.int tot), .val (.int (1 : Int32)), .val (.ref b35), .val (.ref b41), .val (.int tot)] [(.int tot), (.int tot)])) _
          refine XS.icmpNo X44.here hx rfl (hb hby at_224) rfl (teq (rfl : tot = tot)).2 ?_
          show Steps p.tables e below (T44.setTop (mkF m 227 #[.val (.int p1), .val (.int p2), .val (.int p3), .val (.int p4), .val (.int p5), .val (.int p6), .val (.int (1 : Int32)), .val (.int f0), .val (.int f1), .val (.int f2), .val (.ref b22), .val (.ref b23), .val (.int tot), .val (.int (1 : Int32)), .val (.ref b35), .val (.ref b41), .val (.int tot)] [])) _
          refine XS.iconst X44.here hx rfl (hb hby at_227) ?_
          show Steps p.tables e below (T44.setTop (mkF m 228 #[.val (.int p1), .val (.int p2), .val (.int p3), .val (.int p4), .val (.int p5), .val (.int p6), .val (.int (1 : Int32)), .val (.int f0), .val (.int f1), .val (.int f2), .val (.ref b22), .val (.ref b23), .val (.int tot), .val (.int (1 : Int32)), .val (.ref b35), .val (.ref b41), .val (.int tot)] [(.int (1 : Int32))])) _
          refine XS.goto X44.here hx rfl (pc0 := 228) (pc' := 232) rfl (hb hby at_228) (by decide) (by decide) ?_
          exact k)
        obtain ⟨fs, hr, hrun, hended, hW, hsame⟩ := X44.leave (v := some (.int (nar .boolean (1 : Int32)))) (fun h => by rw [Bd.returns] at h; cases h)
        refine ⟨_, _, pre45 _ ?_, hrun, hended, _, _, rfl, ?_, ⟨_, rfl⟩, hW, hsame.mono (by decide) (by decide)⟩
        · show Steps p.tables e below (T44.setTop (mkF m 232 #[.val (.int p1), .val (.int p2), .val (.int p3), .val (.int p4), .val (.int p5), .val (.int p6), .val (.int (1 : Int32)), .val (.int f0), .val (.int f1), .val (.int f2), .val (.ref b22), .val (.ref b23), .val (.int tot), .val (.int (1 : Int32)), .val (.ref b35), .val (.ref b41), .val (.int tot)] [(.int (1 : Int32))])) _
          exact retN X44 hx (t := .boolean) Bd.returns (by simp) (hb hby at_232) hr
        · show QL n0 _ T44.heap _
          rw [e44]
          exact ⟨rfl, N44⟩
      · obtain ⟨T46, h46, X46, e46, E46, A46, D46, -, st46⟩ := newO X37 hx hZ hown (hw _ (List.mem_of_getElem? (i := 1) rfl)) (hw _ (List.mem_of_getElem? (i := 2) rfl)) (hw _ (List.mem_of_getElem? (i := 3) rfl)) e37 (g := (mkF m 181 #[.val (.int p1), .val (.int p2), .val (.int p3), .val (.int p4), .val (.int p5), .val (.int p6), .val (.int (1 : Int32)), .val (.int f0), .val (.int f1), .val (.int f2), .val (.ref b22), .val (.ref b23), .val (.int tot), .val (.int (1 : Int32)), .val (.ref b35), .unset, .unset] [])) rfl (hb hby at_181) (by decide) (by decide)
        obtain ⟨b46, g46⟩ : ∃ z, z = h37.size := ⟨_, rfl⟩
        rw [← g46] at A46 D46 st46
        have ne_b22_b46 : b22 ≠ b46 := Nat.ne_of_lt (Nat.lt_of_lt_of_le (V37_0).lt (Nat.le_of_eq g46.symm))
        have ne_b23_b46 : b23 ≠ b46 := Nat.ne_of_lt (Nat.lt_of_lt_of_le (V37_1).lt (Nat.le_of_eq g46.symm))
        have ne_b35_b46 : b35 ≠ b46 := Nat.ne_of_lt (Nat.lt_of_lt_of_le (V_b35_37).lt (Nat.le_of_eq g46.symm))
        have g_b46 : n0 ≤ b46 := Nat.le_trans z37 (Nat.le_of_eq g46.symm)
        have V46_0 := V37_0.ext E46
        have V46_1 := V37_1.ext E46
        have V46_2 := V_b35_37.ext E46
        have z46 : n0 ≤ h46.size := Nat.le_trans z37 E46.1
        have F_documents_b46 : Fld Z h46 b46 "com/example/cranfield/cranfield/index/Postings" "documents" "[I" .null := D46 (Or.inr (hw _ (List.mem_of_getElem? (i := 11) rfl))) (ty := (.array .int)) (by decide)
        have F_frequencies_b46 : Fld Z h46 b46 "com/example/cranfield/cranfield/index/Postings" "frequencies" "[I" .null := D46 (Or.inr (hw _ (List.mem_of_getElem? (i := 13) rfl))) (ty := (.array .int)) (by decide)
        have F_positions_b46 : Fld Z h46 b46 "com/example/cranfield/cranfield/index/Postings" "positions" "[I" .null := D46 (Or.inr (hw _ (List.mem_of_getElem? (i := 15) rfl))) (ty := (.array .int)) (by decide)
        have F_firstPositions_b46 : Fld Z h46 b46 "com/example/cranfield/cranfield/index/Postings" "firstPositions" "[I" .null := D46 (Or.inr (hw _ (List.mem_of_getElem? (i := 17) rfl))) (ty := (.array .int)) (by decide)
        obtain ⟨_, _, ⟨T47, L47, k47, n47⟩, -, X47, ⟨Lc47, hQ47, l47, y47, z47⟩, st47⟩ := X46.specialBack hx (y := (⟨"com/example/cranfield/cranfield/index/Postings", "<init>", "([I[I[I)V"⟩ : MethodName)) rfl hown (mvT hZ (hw _ (List.mem_of_getElem? (i := 4) rfl))) (mvT hZ (hw _ (List.mem_of_getElem? (i := 5) rfl))) (mvT hZ (hw _ (List.mem_of_getElem? (i := 6) rfl))) (by decide) (backOf (W := 1) (rmI1 l Z a0 hw [] b46 b22 b23 b35 k22 k23 f0 h46 n0 z46 A46 g_b46 F_documents_b46 F_frequencies_b46 F_positions_b46 F_firstPositions_b46 V46_0 V46_1 (Ne.symm ne_b22_b46) (Ne.symm ne_b23_b46)) hZ (hw _ (List.mem_of_getElem? (i := 6) rfl)) (hw _ (List.mem_of_getElem? (i := 3) rfl)) (by decide) (by decide)) (g := (mkF m 191 #[.val (.int p1), .val (.int p2), .val (.int p3), .val (.int p4), .val (.int p5), .val (.int p6), .val (.int (1 : Int32)), .val (.int f0), .val (.int f1), .val (.int f2), .val (.ref b22), .val (.ref b23), .val (.int tot), .val (.int (1 : Int32)), .val (.ref b35), .unset, .unset] [(.ref b35), (.ref b23), (.ref b22), (.ref b46), (.ref b46)])) rfl (by rw [hml]; rfl) (Steps.refl _) (a := b46) (argsL := [(.ref b22), (.ref b23), (.ref b35)]) (rest := [(.ref b46)]) (lenOf own_pd0 rfl) rfl (by show 2 * 0 + _ ≤ _; exact Nat.le_of_eq rfl) (hb hby at_191) (fun _ _ => ⟨rfl, e46, (by decide : 4 + 1 ≤ _), (by decide : 18 + 1 ≤ _)⟩)
        dsimp only [Pt.U, Pt.locs, Pt.cells, Pt.slots] at X47 l47 y47 z47 st47 hQ47
        subst l47 y47 z47
        obtain ⟨h47, e47⟩ : ∃ z, T47.heap = z := ⟨_, rfl⟩
        rw [e47] at hQ47
        obtain ⟨rfl, N47q, Kc47, fp47⟩ := hQ47
        have N47 := Fr.app N37 N47q
        have X47_797 := A46.keep Kc47
        have V47_798 := V46_0.keep Kc47 (ninS ne_b22_b46 nin0)
        have V47_799 := V46_1.keep Kc47 (ninS ne_b23_b46 nin0)
        have V47_800 := V46_2.keep Kc47 (ninS ne_b35_b46 nin0)
        have z47 : n0 ≤ h47.size := Nat.le_trans z46 Kc47.1
        obtain ⟨cq48, kq48, q48a, q48b, q48c⟩ := isOf hZ e47 X47_797
        obtain ⟨_, _, ⟨T48, L48, k48, n48⟩, -, X48, ⟨Lc48, hQ48, l48, y48, z48⟩, st48⟩ := X47.virtualBack hx (y := (⟨"com/example/cranfield/cranfield/index/Postings", "positionCount", "()I"⟩ : MethodName)) (z := (⟨"com/example/cranfield/cranfield/index/Postings", "positionCount", "()I"⟩ : MethodName)) hown (mvT hZ (hw _ (List.mem_of_getElem? (i := 18) rfl))) (mvT hZ (hw _ (List.mem_of_getElem? (i := 19) rfl))) (notFace_of_selects (args := #[]) (mvT hZ (hw _ (List.mem_of_getElem? (i := 21) rfl)))) (mvT hZ (hw _ (List.mem_of_getElem? (i := 21) rfl))) (mvT hZ (hw _ (List.mem_of_getElem? (i := 20) rfl))) (by decide) (backOf (W := 0) (rmPr l Z a0 hw [] b46 b35 k35 tot [] [(.int p5)] (.int (0 : Int32)) h47 n0 z47 fp47 V47_800) hZ (hw _ (List.mem_of_getElem? (i := 22) rfl)) (hw _ (List.mem_of_getElem? (i := 3) rfl)) (by decide) (by decide)) q48a q48c (g := (mkF m 198 #[.val (.int p1), .val (.int p2), .val (.int p3), .val (.int p4), .val (.int p5), .val (.int p6), .val (.int (1 : Int32)), .val (.int f0), .val (.int f1), .val (.int f2), .val (.ref b22), .val (.ref b23), .val (.int tot), .val (.int (1 : Int32)), .val (.ref b35), .val (.ref b46), .unset] [(.ref b46)])) rfl (by rw [hml]; rfl) (Steps.refl _) (argsL := []) (rest := []) (lenOf own_pd1 rfl) rfl (by show 2 * 0 + _ ≤ _; exact Nat.le_of_eq rfl) (hb hby at_198) (fun _ _ => ⟨rfl, e47, (by decide : 5 + 0 ≤ _), (by decide : 19 + 0 ≤ _)⟩)
        dsimp only [Pt.U, Pt.locs, Pt.cells, Pt.slots] at X48 l48 y48 z48 st48 hQ48
        subst l48 y48 z48
        obtain ⟨rfl, N48q, e48⟩ := hQ48
        have N48 := Fr.app N47 N48q
        obtain ⟨cq49, kq49, q49a, q49b, q49c⟩ := isOf hZ e48 X47_797
        obtain ⟨_, _, ⟨T49, L49, k49, n49⟩, -, X49, ⟨Lc49, hQ49, l49, y49, z49⟩, st49⟩ := X48.virtualBack hx (y := (⟨"com/example/cranfield/cranfield/index/Postings", "hasPositions", "()Z"⟩ : MethodName)) (z := (⟨"com/example/cranfield/cranfield/index/Postings", "hasPositions", "()Z"⟩ : MethodName)) hown (mvT hZ (hw _ (List.mem_of_getElem? (i := 23) rfl))) (mvT hZ (hw _ (List.mem_of_getElem? (i := 24) rfl))) (notFace_of_selects (args := #[]) (mvT hZ (hw _ (List.mem_of_getElem? (i := 26) rfl)))) (mvT hZ (hw _ (List.mem_of_getElem? (i := 26) rfl))) (mvT hZ (hw _ (List.mem_of_getElem? (i := 25) rfl))) (by decide) (backOf (W := 0) (rmHr l Z a0 hw [] b46 b35 h47 n0 z47 fp47) hZ (hw _ (List.mem_of_getElem? (i := 27) rfl)) (hw _ (List.mem_of_getElem? (i := 3) rfl)) (by decide) (by decide)) q49a q49c (g := (mkF m 205 #[.val (.int p1), .val (.int p2), .val (.int p3), .val (.int p4), .val (.int p5), .val (.int p6), .val (.int (1 : Int32)), .val (.int f0), .val (.int f1), .val (.int f2), .val (.ref b22), .val (.ref b23), .val (.int tot), .val (.int (1 : Int32)), .val (.ref b35), .val (.ref b46), .val (.int tot)] [(.ref b46)])) rfl (by rw [hml]; rfl) (Steps.refl _) (argsL := []) (rest := []) (lenOf own_pd2 rfl) rfl (by show 2 * 0 + _ ≤ _; exact Nat.le_of_eq rfl) (hb hby at_205) (fun _ _ => ⟨rfl, e48, (by decide : 5 + 0 ≤ _), (by decide : 19 + 0 ≤ _)⟩)
        dsimp only [Pt.U, Pt.locs, Pt.cells, Pt.slots] at X49 l49 y49 z49 st49 hQ49
        subst l49 y49 z49
        obtain ⟨rfl, N49q, e49⟩ := hQ49
        have N49 := Fr.app N48 N49q
        have pre50 : ∀ t, Steps p.tables e below (T49.setTop (mkF m 232 #[.val (.int p1), .val (.int p2), .val (.int p3), .val (.int p4), .val (.int p5), .val (.int p6), .val (.int (1 : Int32)), .val (.int f0), .val (.int f1), .val (.int f2), .val (.ref b22), .val (.ref b23), .val (.int tot), .val (.int (1 : Int32)), .val (.ref b35), .val (.ref b46), .val (.int tot)] [(.int (1 : Int32))])) t → Steps p.tables e below (s₁.setTop (entryFrame m #[(.int p1), (.int p2), (.int p3), (.int p4), (.int p5), (.int p6)] maxLocals)) t := fun t k => pre38 t (by
          show Steps p.tables e below (T37.setTop (mkF m 169 #[.val (.int p1), .val (.int p2), .val (.int p3), .val (.int p4), .val (.int p5), .val (.int p6), .val (.int (1 : Int32)), .val (.int f0), .val (.int f1), .val (.int f2), .val (.ref b22), .val (.ref b23), .val (.int tot), .val (.int (1 : Int32)), .val (.ref b35), .unset, .unset] [(.int (1 : Int32)), (.int tot)])) _
          refine XS.icmpYes X37.here hx rfl (pc0 := 169) (pc' := 181) rfl (hb hby at_169) rfl (flt (ht1 : ¬ ((1 : Int32) < tot))).2.2.2 (by decide) (by decide) ?_
          show Steps p.tables e below (T37.setTop (mkF m 181 #[.val (.int p1), .val (.int p2), .val (.int p3), .val (.int p4), .val (.int p5), .val (.int p6), .val (.int (1 : Int32)), .val (.int f0), .val (.int f1), .val (.int f2), .val (.ref b22), .val (.ref b23), .val (.int tot), .val (.int (1 : Int32)), .val (.ref b35), .unset, .unset] [])) _
          refine st46 _ ?_
          show Steps p.tables e below (T46.setTop (mkF m 184 #[.val (.int p1), .val (.int p2), .val (.int p3), .val (.int p4), .val (.int p5), .val (.int p6), .val (.int (1 : Int32)), .val (.int f0), .val (.int f1), .val (.int f2), .val (.ref b22), .val (.ref b23), .val (.int tot), .val (.int (1 : Int32)), .val (.ref b35), .unset, .unset] [(.ref b46)])) _
          refine XS.dup X46.here hx rfl (hb hby at_184) rfl rfl ?_
          show Steps p.tables e below (T46.setTop (mkF m 185 #[.val (.int p1), .val (.int p2), .val (.int p3), .val (.int p4), .val (.int p5), .val (.int p6), .val (.int (1 : Int32)), .val (.int f0), .val (.int f1), .val (.int f2), .val (.ref b22), .val (.ref b23), .val (.int tot), .val (.int (1 : Int32)), .val (.ref b35), .unset, .unset] [(.ref b46), (.ref b46)])) _
          refine XS.aload X46.here hx rfl (hb hby at_185) rfl rfl ?_
          show Steps p.tables e below (T46.setTop (mkF m 187 #[.val (.int p1), .val (.int p2), .val (.int p3), .val (.int p4), .val (.int p5), .val (.int p6), .val (.int (1 : Int32)), .val (.int f0), .val (.int f1), .val (.int f2), .val (.ref b22), .val (.ref b23), .val (.int tot), .val (.int (1 : Int32)), .val (.ref b35), .unset, .unset] [(.ref b22), (.ref b46), (.ref b46)])) _
          refine XS.aload X46.here hx rfl (hb hby at_187) rfl rfl ?_
          show Steps p.tables e below (T46.setTop (mkF m 189 #[.val (.int p1), .val (.int p2), .val (.int p3), .val (.int p4), .val (.int p5), .val (.int p6), .val (.int (1 : Int32)), .val (.int f0), .val (.int f1), .val (.int f2), .val (.ref b22), .val (.ref b23), .val (.int tot), .val (.int (1 : Int32)), .val (.ref b35), .unset, .unset] [(.ref b23), (.ref b22), (.ref b46), (.ref b46)])) _
          refine XS.aload X46.here hx rfl (hb hby at_189) rfl rfl ?_
          show Steps p.tables e below (T46.setTop (mkF m 191 #[.val (.int p1), .val (.int p2), .val (.int p3), .val (.int p4), .val (.int p5), .val (.int p6), .val (.int (1 : Int32)), .val (.int f0), .val (.int f1), .val (.int f2), .val (.ref b22), .val (.ref b23), .val (.int tot), .val (.int (1 : Int32)), .val (.ref b35), .unset, .unset] [(.ref b35), (.ref b23), (.ref b22), (.ref b46), (.ref b46)])) _
          refine st47.trans ?_
          show Steps p.tables e below (T47.setTop (mkF m 194 #[.val (.int p1), .val (.int p2), .val (.int p3), .val (.int p4), .val (.int p5), .val (.int p6), .val (.int (1 : Int32)), .val (.int f0), .val (.int f1), .val (.int f2), .val (.ref b22), .val (.ref b23), .val (.int tot), .val (.int (1 : Int32)), .val (.ref b35), .unset, .unset] [(.ref b46)])) _
          refine XS.astore X47.here hx rfl (hb hby at_194) rfl rfl (l' := #[.val (.int p1), .val (.int p2), .val (.int p3), .val (.int p4), .val (.int p5), .val (.int p6), .val (.int (1 : Int32)), .val (.int f0), .val (.int f1), .val (.int f2), .val (.ref b22), .val (.ref b23), .val (.int tot), .val (.int (1 : Int32)), .val (.ref b35), .val (.ref b46), .unset]) rfl ?_
          show Steps p.tables e below (T47.setTop (mkF m 196 #[.val (.int p1), .val (.int p2), .val (.int p3), .val (.int p4), .val (.int p5), .val (.int p6), .val (.int (1 : Int32)), .val (.int f0), .val (.int f1), .val (.int f2), .val (.ref b22), .val (.ref b23), .val (.int tot), .val (.int (1 : Int32)), .val (.ref b35), .val (.ref b46), .unset] [])) _
          refine XS.aload X47.here hx rfl (hb hby at_196) rfl rfl ?_
          show Steps p.tables e below (T47.setTop (mkF m 198 #[.val (.int p1), .val (.int p2), .val (.int p3), .val (.int p4), .val (.int p5), .val (.int p6), .val (.int (1 : Int32)), .val (.int f0), .val (.int f1), .val (.int f2), .val (.ref b22), .val (.ref b23), .val (.int tot), .val (.int (1 : Int32)), .val (.ref b35), .val (.ref b46), .unset] [(.ref b46)])) _
          refine st48.trans ?_
          show Steps p.tables e below (T48.setTop (mkF m 201 #[.val (.int p1), .val (.int p2), .val (.int p3), .val (.int p4), .val (.int p5), .val (.int p6), .val (.int (1 : Int32)), .val (.int f0), .val (.int f1), .val (.int f2), .val (.ref b22), .val (.ref b23), .val (.int tot), .val (.int (1 : Int32)), .val (.ref b35), .val (.ref b46), .unset] [(.int tot)])) _
          refine XS.istore X48.here hx rfl (hb hby at_201) rfl (l' := #[.val (.int p1), .val (.int p2), .val (.int p3), .val (.int p4), .val (.int p5), .val (.int p6), .val (.int (1 : Int32)), .val (.int f0), .val (.int f1), .val (.int f2), .val (.ref b22), .val (.ref b23), .val (.int tot), .val (.int (1 : Int32)), .val (.ref b35), .val (.ref b46), .val (.int tot)]) rfl ?_
          show Steps p.tables e below (T48.setTop (mkF m 203 #[.val (.int p1), .val (.int p2), .val (.int p3), .val (.int p4), .val (.int p5), .val (.int p6), .val (.int (1 : Int32)), .val (.int f0), .val (.int f1), .val (.int f2), .val (.ref b22), .val (.ref b23), .val (.int tot), .val (.int (1 : Int32)), .val (.ref b35), .val (.ref b46), .val (.int tot)] [])) _
          refine XS.aload X48.here hx rfl (hb hby at_203) rfl rfl ?_
          show Steps p.tables e below (T48.setTop (mkF m 205 #[.val (.int p1), .val (.int p2), .val (.int p3), .val (.int p4), .val (.int p5), .val (.int p6), .val (.int (1 : Int32)), .val (.int f0), .val (.int f1), .val (.int f2), .val (.ref b22), .val (.ref b23), .val (.int tot), .val (.int (1 : Int32)), .val (.ref b35), .val (.ref b46), .val (.int tot)] [(.ref b46)])) _
          refine st49.trans ?_
          show Steps p.tables e below (T49.setTop (mkF m 208 #[.val (.int p1), .val (.int p2), .val (.int p3), .val (.int p4), .val (.int p5), .val (.int p6), .val (.int (1 : Int32)), .val (.int f0), .val (.int f1), .val (.int f2), .val (.ref b22), .val (.ref b23), .val (.int tot), .val (.int (1 : Int32)), .val (.ref b35), .val (.ref b46), .val (.int tot)] [(.int (1 : Int32))])) _
          refine XS.iload X49.here hx rfl (hb hby at_208) rfl ?_
          show Steps p.tables e below (T49.setTop (mkF m 210 #[.val (.int p1), .val (.int p2), .val (.int p3), .val (.int p4), .val (.int p5), .val (.int p6), .val (.int (1 : Int32)), .val (.int f0), .val (.int f1), .val (.int f2), .val (.ref b22), .val (.ref b23), .val (.int tot), .val (.int (1 : Int32)), .val (.ref b35), .val (.ref b46), .val (.int tot)] [(.int (1 : Int32)), (.int (1 : Int32))])) _
          refine XS.icmpYes X49.here hx rfl (pc0 := 210) (pc' := 215) rfl (hb hby at_210) rfl (teq ((by decide) : (1 : Int32) = (1 : Int32))).1 (by decide) (by decide) ?_
          show Steps p.tables e below (T49.setTop (mkF m 215 #[.val (.int p1), .val (.int p2), .val (.int p3), .val (.int p4), .val (.int p5), .val (.int p6), .val (.int (1 : Int32)), .val (.int f0), .val (.int f1), .val (.int f2), .val (.ref b22), .val (.ref b23), .val (.int tot), .val (.int (1 : Int32)), .val (.ref b35), .val (.ref b46), .val (.int tot)] [])) _
          refine XS.iload X49.here hx rfl (hb hby at_215) rfl ?_
          show Steps p.tables e below (T49.setTop (mkF m 217 #[.val (.int p1), .val (.int p2), .val (.int p3), .val (.int p4), .val (.int p5), .val (.int p6), .val (.int (1 : Int32)), .val (.int f0), .val (.int f1), .val (.int f2), .val (.ref b22), .val (.ref b23), .val (.int tot), .val (.int (1 : Int32)), .val (.ref b35), .val (.ref b46), .val (.int tot)] [(.int (1 : Int32))])) _
          refine XS.ifNo X49.here hx rfl (hb hby at_217) rfl ((if0 _ _).trans (feq ((by decide) : ¬ ((1 : Int32) = (0 : Int32)))).1) ?_
          show Steps p.tables e below (T49.setTop (mkF m 220 #[.val (.int p1), .val (.int p2), .val (.int p3), .val (.int p4), .val (.int p5), .val (.int p6), .val (.int (1 : Int32)), .val (.int f0), .val (.int f1), .val (.int f2), .val (.ref b22), .val (.ref b23), .val (.int tot), .val (.int (1 : Int32)), .val (.ref b35), .val (.ref b46), .val (.int tot)] [])) _
          refine XS.iload X49.here hx rfl (hb hby at_220) rfl ?_
          show Steps p.tables e below (T49.setTop (mkF m 222 #[.val (.int p1), .val (.int p2), .val (.int p3), .val (.int p4), .val (.int p5), .val (.int p6), .val (.int (1 : Int32)), .val (.int f0), .val (.int f1), .val (.int f2), .val (.ref b22), .val (.ref b23), .val (.int tot), .val (.int (1 : Int32)), .val (.ref b35), .val (.ref b46), .val (.int tot)] [(.int tot)])) _
          refine XS.iload X49.here hx rfl (hb hby at_222) rfl ?_
          show Steps p.tables e below (T49.setTop (mkF m 224 #[.val (.int p1), .val (.int p2), .val (.int p3), .val (.int p4), .val (.int p5), .val (.int p6), .val (.int (1 : Int32)), .val (.int f0), .val (.int f1), .val (.int f2), .val (.ref b22), .val (.ref b23), .val (.int tot), .val (.int (1 : Int32)), .val (.ref b35), .val (.ref b46), .val (.int tot)] [(.int tot), (.int tot)])) _
          refine XS.icmpNo X49.here hx rfl (hb hby at_224) rfl (teq (rfl : tot = tot)).2 ?_
          show Steps p.tables e below (T49.setTop (mkF m 227 #[.val (.int p1), .val (.int p2), .val (.int p3), .val (.int p4), .val (.int p5), .val (.int p6), .val (.int (1 : Int32)), .val (.int f0), .val (.int f1), .val (.int f2), .val (.ref b22), .val (.ref b23), .val (.int tot), .val (.int (1 : Int32)), .val (.ref b35), .val (.ref b46), .val (.int tot)] [])) _
          refine XS.iconst X49.here hx rfl (hb hby at_227) ?_
          show Steps p.tables e below (T49.setTop (mkF m 228 #[.val (.int p1), .val (.int p2), .val (.int p3), .val (.int p4), .val (.int p5), .val (.int p6), .val (.int (1 : Int32)), .val (.int f0), .val (.int f1), .val (.int f2), .val (.ref b22), .val (.ref b23), .val (.int tot), .val (.int (1 : Int32)), .val (.ref b35), .val (.ref b46), .val (.int tot)] [(.int (1 : Int32))])) _
          refine XS.goto X49.here hx rfl (pc0 := 228) (pc' := 232) rfl (hb hby at_228) (by decide) (by decide) ?_
          exact k)
        obtain ⟨fs, hr, hrun, hended, hW, hsame⟩ := X49.leave (v := some (.int (nar .boolean (1 : Int32)))) (fun h => by rw [Bd.returns] at h; cases h)
        refine ⟨_, _, pre50 _ ?_, hrun, hended, _, _, rfl, ?_, ⟨_, rfl⟩, hW, hsame.mono (by decide) (by decide)⟩
        · show Steps p.tables e below (T49.setTop (mkF m 232 #[.val (.int p1), .val (.int p2), .val (.int p3), .val (.int p4), .val (.int p5), .val (.int p6), .val (.int (1 : Int32)), .val (.int f0), .val (.int f1), .val (.int f2), .val (.ref b22), .val (.ref b23), .val (.int tot), .val (.int (1 : Int32)), .val (.ref b35), .val (.ref b46), .val (.int tot)] [(.int (1 : Int32))])) _
          exact retN X49 hx (t := .boolean) Bd.returns (by simp) (hb hby at_232) hr
        · show QL n0 _ T49.heap _
          rw [e49]
          exact ⟨rfl, N49⟩
  · subst hn4
    obtain ⟨T51, h51, k51, X51, e51, E51, A51, st51⟩ := newP X0 hx hZ (hw _ (List.mem_of_getElem? (i := 0) rfl)) e0 (g := (mkF m 28 #[.val (.int p1), .val (.int p2), .val (.int p3), .val (.int p4), .val (.int p5), .val (.int p6), .val (.int (2 : Int32)), .val (.int f0), .val (.int f1), .val (.int f2), .unset, .unset, .unset, .unset, .unset, .unset, .unset] [(.int (2 : Int32))])) rfl (hb hby at_28) rfl (by decide) (cap := 2) (by decide) (by decide) (by decide) (by decide)
    obtain ⟨b51, g51⟩ : ∃ z, z = h0.size := ⟨_, rfl⟩
    rw [← g51] at A51 st51
    have g_b51 : n0 ≤ b51 := Nat.le_trans Z0 (Nat.le_of_eq g51.symm)
    have z51 : n0 ≤ h51.size := Nat.le_trans Z0 E51.1
    have V_b51 : Arv Z h51 b51 k51 .int (2 : Int32) [(.int (0 : Int32)), (.int (0 : Int32))] (.int (0 : Int32)) := (Arv.new A51 (by decide)).pad (pad_rep [] (.int (0 : Int32)) 2)
    obtain ⟨T52, h52, k52, X52, e52, E52, A52, st52⟩ := newP X51 hx hZ (hw _ (List.mem_of_getElem? (i := 0) rfl)) e51 (g := (mkF m 34 #[.val (.int p1), .val (.int p2), .val (.int p3), .val (.int p4), .val (.int p5), .val (.int p6), .val (.int (2 : Int32)), .val (.int f0), .val (.int f1), .val (.int f2), .val (.ref b51), .unset, .unset, .unset, .unset, .unset, .unset] [(.int (2 : Int32))])) rfl (hb hby at_34) rfl (by decide) (cap := 2) (by decide) (by decide) (by decide) (by decide)
    obtain ⟨b52, g52⟩ : ∃ z, z = h51.size := ⟨_, rfl⟩
    rw [← g52] at A52 st52
    have ne_b51_b52 : b51 ≠ b52 := Nat.ne_of_lt (Nat.lt_of_lt_of_le (V_b51).lt (Nat.le_of_eq g52.symm))
    have g_b52 : n0 ≤ b52 := Nat.le_trans z51 (Nat.le_of_eq g52.symm)
    have V52_0 := V_b51.ext E52
    have z52 : n0 ≤ h52.size := Nat.le_trans z51 E52.1
    have V_b52 : Arv Z h52 b52 k52 .int (2 : Int32) [(.int (0 : Int32)), (.int (0 : Int32))] (.int (0 : Int32)) := (Arv.new A52 (by decide)).pad (pad_rep [] (.int (0 : Int32)) 2)
    obtain ⟨cl53, Ar53, q53, S53, M53, H53, G53⟩ := id V52_0
    have hin53 : ¬ ((0 : Int32) < 0 ∨ cl53.slots.size ≤ ((0 : Int32)).toNatClampNeg) := inb_of S53 ⟨by decide, by decide⟩
    obtain ⟨T54, h54, X54, e54, W54, st54⟩ := stI X52 hx hZ e52 Ar53 (j := (0 : Int32)) hin53 (g := (mkF m 47 #[.val (.int p1), .val (.int p2), .val (.int p3), .val (.int p4), .val (.int p5), .val (.int p6), .val (.int (2 : Int32)), .val (.int f0), .val (.int f1), .val (.int f2), .val (.ref b51), .val (.ref b52), .unset, .unset, .unset, .unset, .unset] [(.int (1 : Int32)), (.int (0 : Int32)), (.ref b51)])) rfl rfl (hb hby at_47)
    have V_b51_54 : Arv Z h54 b51 k51 .int (2 : Int32) [(.int (1 : Int32)), (.int (0 : Int32))] (.int (0 : Int32)) := Arv.set Ar53 q53 S53 M53 H53 G53 rfl W54 0 rfl (Nat.le_of_ble_eq_true rfl)
    have V54_1 := V_b52.other W54 (Ne.symm ne_b51_b52)
    have z54 : n0 ≤ h54.size := by rw [W54.size]; exact z52
    have N54 := Fr.snoc X54 N0 g_b51
    obtain ⟨cl55, Ar55, q55, S55, M55, H55, G55⟩ := id V54_1
    have hin55 : ¬ ((0 : Int32) < 0 ∨ cl55.slots.size ≤ ((0 : Int32)).toNatClampNeg) := inb_of S55 ⟨by decide, by decide⟩
    obtain ⟨T56, h56, X56, e56, W56, st56⟩ := stI X54 hx hZ e54 Ar55 (j := (0 : Int32)) hin55 (g := (mkF m 53 #[.val (.int p1), .val (.int p2), .val (.int p3), .val (.int p4), .val (.int p5), .val (.int p6), .val (.int (2 : Int32)), .val (.int f0), .val (.int f1), .val (.int f2), .val (.ref b51), .val (.ref b52), .unset, .unset, .unset, .unset, .unset] [(.int f0), (.int (0 : Int32)), (.ref b52)])) rfl rfl (hb hby at_53)
    have V_b52_56 : Arv Z h56 b52 k52 .int (2 : Int32) [(.int f0), (.int (0 : Int32))] (.int (0 : Int32)) := Arv.set Ar55 q55 S55 M55 H55 G55 rfl W56 0 rfl (Nat.le_of_ble_eq_true rfl)
    have V56_0 := V_b51_54.other W56 ne_b51_b52
    have z56 : n0 ≤ h56.size := by rw [W56.size]; exact z54
    have N56 := Fr.snoc X56 N54 g_b52
    obtain ⟨cl57, Ar57, q57, S57, M57, H57, G57⟩ := id V56_0
    have hin57 : ¬ ((1 : Int32) < 0 ∨ cl57.slots.size ≤ ((1 : Int32)).toNatClampNeg) := inb_of S57 ⟨by decide, by decide⟩
    obtain ⟨T58, h58, X58, e58, W58, st58⟩ := stI X56 hx hZ e56 Ar57 (j := (1 : Int32)) hin57 (g := (mkF m 64 #[.val (.int p1), .val (.int p2), .val (.int p3), .val (.int p4), .val (.int p5), .val (.int p6), .val (.int (2 : Int32)), .val (.int f0), .val (.int f1), .val (.int f2), .val (.ref b51), .val (.ref b52), .unset, .unset, .unset, .unset, .unset] [(.int (2 : Int32)), (.int (1 : Int32)), (.ref b51)])) rfl rfl (hb hby at_64)
    have V_b51_58 : Arv Z h58 b51 k51 .int (2 : Int32) [(.int (1 : Int32)), (.int (2 : Int32))] (.int (0 : Int32)) := Arv.set Ar57 q57 S57 M57 H57 G57 rfl W58 1 rfl (Nat.le_of_ble_eq_true rfl)
    have V58_1 := V_b52_56.other W58 (Ne.symm ne_b51_b52)
    have z58 : n0 ≤ h58.size := by rw [W58.size]; exact z56
    have N58 := Fr.snoc X58 N56 g_b51
    obtain ⟨cl59, Ar59, q59, S59, M59, H59, G59⟩ := id V58_1
    have hin59 : ¬ ((1 : Int32) < 0 ∨ cl59.slots.size ≤ ((1 : Int32)).toNatClampNeg) := inb_of S59 ⟨by decide, by decide⟩
    obtain ⟨T60, h60, X60, e60, W60, st60⟩ := stI X58 hx hZ e58 Ar59 (j := (1 : Int32)) hin59 (g := (mkF m 70 #[.val (.int p1), .val (.int p2), .val (.int p3), .val (.int p4), .val (.int p5), .val (.int p6), .val (.int (2 : Int32)), .val (.int f0), .val (.int f1), .val (.int f2), .val (.ref b51), .val (.ref b52), .unset, .unset, .unset, .unset, .unset] [(.int f1), (.int (1 : Int32)), (.ref b52)])) rfl rfl (hb hby at_70)
    have V_b52_60 : Arv Z h60 b52 k52 .int (2 : Int32) [(.int f0), (.int f1)] (.int (0 : Int32)) := Arv.set Ar59 q59 S59 M59 H59 G59 rfl W60 1 rfl (Nat.le_of_ble_eq_true rfl)
    have V60_0 := V_b51_58.other W60 ne_b51_b52
    have z60 : n0 ≤ h60.size := by rw [W60.size]; exact z58
    have N60 := Fr.snoc X60 N58 g_b52
    have htot := own_tot2 hf0 hf1 hf2
    have pre61 : ∀ t, Steps p.tables e below (T60.setTop (mkF m 125 #[.val (.int p1), .val (.int p2), .val (.int p3), .val (.int p4), .val (.int p5), .val (.int p6), .val (.int (2 : Int32)), .val (.int f0), .val (.int f1), .val (.int f2), .val (.ref b51), .val (.ref b52), .unset, .unset, .unset, .unset, .unset] [(.int ((f0 + f1) + (0 : Int32)))])) t → Steps p.tables e below (s₁.setTop (entryFrame m #[(.int p1), (.int p2), (.int p3), (.int p4), (.int p5), (.int p6)] maxLocals)) t := fun t k => pre5 t (by
      show Steps p.tables e below (s₁.setTop (mkF m 28 #[.val (.int p1), .val (.int p2), .val (.int p3), .val (.int p4), .val (.int p5), .val (.int p6), .val (.int (2 : Int32)), .val (.int f0), .val (.int f1), .val (.int f2), .unset, .unset, .unset, .unset, .unset, .unset, .unset] [(.int (2 : Int32))])) _
      refine st51 _ ?_
      show Steps p.tables e below (T51.setTop (mkF m 30 #[.val (.int p1), .val (.int p2), .val (.int p3), .val (.int p4), .val (.int p5), .val (.int p6), .val (.int (2 : Int32)), .val (.int f0), .val (.int f1), .val (.int f2), .unset, .unset, .unset, .unset, .unset, .unset, .unset] [(.ref b51)])) _
      refine XS.astore X51.here hx rfl (hb hby at_30) rfl rfl (l' := #[.val (.int p1), .val (.int p2), .val (.int p3), .val (.int p4), .val (.int p5), .val (.int p6), .val (.int (2 : Int32)), .val (.int f0), .val (.int f1), .val (.int f2), .val (.ref b51), .unset, .unset, .unset, .unset, .unset, .unset]) rfl ?_
      show Steps p.tables e below (T51.setTop (mkF m 32 #[.val (.int p1), .val (.int p2), .val (.int p3), .val (.int p4), .val (.int p5), .val (.int p6), .val (.int (2 : Int32)), .val (.int f0), .val (.int f1), .val (.int f2), .val (.ref b51), .unset, .unset, .unset, .unset, .unset, .unset] [])) _
      refine XS.iload X51.here hx rfl (hb hby at_32) rfl ?_
      show Steps p.tables e below (T51.setTop (mkF m 34 #[.val (.int p1), .val (.int p2), .val (.int p3), .val (.int p4), .val (.int p5), .val (.int p6), .val (.int (2 : Int32)), .val (.int f0), .val (.int f1), .val (.int f2), .val (.ref b51), .unset, .unset, .unset, .unset, .unset, .unset] [(.int (2 : Int32))])) _
      refine st52 _ ?_
      show Steps p.tables e below (T52.setTop (mkF m 36 #[.val (.int p1), .val (.int p2), .val (.int p3), .val (.int p4), .val (.int p5), .val (.int p6), .val (.int (2 : Int32)), .val (.int f0), .val (.int f1), .val (.int f2), .val (.ref b51), .unset, .unset, .unset, .unset, .unset, .unset] [(.ref b52)])) _
      refine XS.astore X52.here hx rfl (hb hby at_36) rfl rfl (l' := #[.val (.int p1), .val (.int p2), .val (.int p3), .val (.int p4), .val (.int p5), .val (.int p6), .val (.int (2 : Int32)), .val (.int f0), .val (.int f1), .val (.int f2), .val (.ref b51), .val (.ref b52), .unset, .unset, .unset, .unset, .unset]) rfl ?_
      show Steps p.tables e below (T52.setTop (mkF m 38 #[.val (.int p1), .val (.int p2), .val (.int p3), .val (.int p4), .val (.int p5), .val (.int p6), .val (.int (2 : Int32)), .val (.int f0), .val (.int f1), .val (.int f2), .val (.ref b51), .val (.ref b52), .unset, .unset, .unset, .unset, .unset] [])) _
      refine XS.iload X52.here hx rfl (hb hby at_38) rfl ?_
      show Steps p.tables e below (T52.setTop (mkF m 40 #[.val (.int p1), .val (.int p2), .val (.int p3), .val (.int p4), .val (.int p5), .val (.int p6), .val (.int (2 : Int32)), .val (.int f0), .val (.int f1), .val (.int f2), .val (.ref b51), .val (.ref b52), .unset, .unset, .unset, .unset, .unset] [(.int (2 : Int32))])) _
      refine XS.ifNo X52.here hx rfl (hb hby at_40) rfl ((if0 _ _).trans (tlt ((by decide) : (0 : Int32) < (2 : Int32))).2.2.2) ?_
      show Steps p.tables e below (T52.setTop (mkF m 43 #[.val (.int p1), .val (.int p2), .val (.int p3), .val (.int p4), .val (.int p5), .val (.int p6), .val (.int (2 : Int32)), .val (.int f0), .val (.int f1), .val (.int f2), .val (.ref b51), .val (.ref b52), .unset, .unset, .unset, .unset, .unset] [])) _
      refine XS.aload X52.here hx rfl (hb hby at_43) rfl rfl ?_
      show Steps p.tables e below (T52.setTop (mkF m 45 #[.val (.int p1), .val (.int p2), .val (.int p3), .val (.int p4), .val (.int p5), .val (.int p6), .val (.int (2 : Int32)), .val (.int f0), .val (.int f1), .val (.int f2), .val (.ref b51), .val (.ref b52), .unset, .unset, .unset, .unset, .unset] [(.ref b51)])) _
      refine XS.iconst X52.here hx rfl (hb hby at_45) ?_
      show Steps p.tables e below (T52.setTop (mkF m 46 #[.val (.int p1), .val (.int p2), .val (.int p3), .val (.int p4), .val (.int p5), .val (.int p6), .val (.int (2 : Int32)), .val (.int f0), .val (.int f1), .val (.int f2), .val (.ref b51), .val (.ref b52), .unset, .unset, .unset, .unset, .unset] [(.int (0 : Int32)), (.ref b51)])) _
      refine XS.iconst X52.here hx rfl (hb hby at_46) ?_
      show Steps p.tables e below (T52.setTop (mkF m 47 #[.val (.int p1), .val (.int p2), .val (.int p3), .val (.int p4), .val (.int p5), .val (.int p6), .val (.int (2 : Int32)), .val (.int f0), .val (.int f1), .val (.int f2), .val (.ref b51), .val (.ref b52), .unset, .unset, .unset, .unset, .unset] [(.int (1 : Int32)), (.int (0 : Int32)), (.ref b51)])) _
      refine st54 _ ?_
      show Steps p.tables e below (T54.setTop (mkF m 48 #[.val (.int p1), .val (.int p2), .val (.int p3), .val (.int p4), .val (.int p5), .val (.int p6), .val (.int (2 : Int32)), .val (.int f0), .val (.int f1), .val (.int f2), .val (.ref b51), .val (.ref b52), .unset, .unset, .unset, .unset, .unset] [])) _
      refine XS.aload X54.here hx rfl (hb hby at_48) rfl rfl ?_
      show Steps p.tables e below (T54.setTop (mkF m 50 #[.val (.int p1), .val (.int p2), .val (.int p3), .val (.int p4), .val (.int p5), .val (.int p6), .val (.int (2 : Int32)), .val (.int f0), .val (.int f1), .val (.int f2), .val (.ref b51), .val (.ref b52), .unset, .unset, .unset, .unset, .unset] [(.ref b52)])) _
      refine XS.iconst X54.here hx rfl (hb hby at_50) ?_
      show Steps p.tables e below (T54.setTop (mkF m 51 #[.val (.int p1), .val (.int p2), .val (.int p3), .val (.int p4), .val (.int p5), .val (.int p6), .val (.int (2 : Int32)), .val (.int f0), .val (.int f1), .val (.int f2), .val (.ref b51), .val (.ref b52), .unset, .unset, .unset, .unset, .unset] [(.int (0 : Int32)), (.ref b52)])) _
      refine XS.iload X54.here hx rfl (hb hby at_51) rfl ?_
      show Steps p.tables e below (T54.setTop (mkF m 53 #[.val (.int p1), .val (.int p2), .val (.int p3), .val (.int p4), .val (.int p5), .val (.int p6), .val (.int (2 : Int32)), .val (.int f0), .val (.int f1), .val (.int f2), .val (.ref b51), .val (.ref b52), .unset, .unset, .unset, .unset, .unset] [(.int f0), (.int (0 : Int32)), (.ref b52)])) _
      refine st56 _ ?_
      show Steps p.tables e below (T56.setTop (mkF m 54 #[.val (.int p1), .val (.int p2), .val (.int p3), .val (.int p4), .val (.int p5), .val (.int p6), .val (.int (2 : Int32)), .val (.int f0), .val (.int f1), .val (.int f2), .val (.ref b51), .val (.ref b52), .unset, .unset, .unset, .unset, .unset] [])) _
      refine XS.iload X56.here hx rfl (hb hby at_54) rfl ?_
      show Steps p.tables e below (T56.setTop (mkF m 56 #[.val (.int p1), .val (.int p2), .val (.int p3), .val (.int p4), .val (.int p5), .val (.int p6), .val (.int (2 : Int32)), .val (.int f0), .val (.int f1), .val (.int f2), .val (.ref b51), .val (.ref b52), .unset, .unset, .unset, .unset, .unset] [(.int (2 : Int32))])) _
      refine XS.iconst X56.here hx rfl (hb hby at_56) ?_
      show Steps p.tables e below (T56.setTop (mkF m 57 #[.val (.int p1), .val (.int p2), .val (.int p3), .val (.int p4), .val (.int p5), .val (.int p6), .val (.int (2 : Int32)), .val (.int f0), .val (.int f1), .val (.int f2), .val (.ref b51), .val (.ref b52), .unset, .unset, .unset, .unset, .unset] [(.int (1 : Int32)), (.int (2 : Int32))])) _
      refine XS.icmpNo X56.here hx rfl (hb hby at_57) rfl (tlt ((by decide) : (1 : Int32) < (2 : Int32))).2.2.2 ?_
      show Steps p.tables e below (T56.setTop (mkF m 60 #[.val (.int p1), .val (.int p2), .val (.int p3), .val (.int p4), .val (.int p5), .val (.int p6), .val (.int (2 : Int32)), .val (.int f0), .val (.int f1), .val (.int f2), .val (.ref b51), .val (.ref b52), .unset, .unset, .unset, .unset, .unset] [])) _
      refine XS.aload X56.here hx rfl (hb hby at_60) rfl rfl ?_
      show Steps p.tables e below (T56.setTop (mkF m 62 #[.val (.int p1), .val (.int p2), .val (.int p3), .val (.int p4), .val (.int p5), .val (.int p6), .val (.int (2 : Int32)), .val (.int f0), .val (.int f1), .val (.int f2), .val (.ref b51), .val (.ref b52), .unset, .unset, .unset, .unset, .unset] [(.ref b51)])) _
      refine XS.iconst X56.here hx rfl (hb hby at_62) ?_
      show Steps p.tables e below (T56.setTop (mkF m 63 #[.val (.int p1), .val (.int p2), .val (.int p3), .val (.int p4), .val (.int p5), .val (.int p6), .val (.int (2 : Int32)), .val (.int f0), .val (.int f1), .val (.int f2), .val (.ref b51), .val (.ref b52), .unset, .unset, .unset, .unset, .unset] [(.int (1 : Int32)), (.ref b51)])) _
      refine XS.iconst X56.here hx rfl (hb hby at_63) ?_
      show Steps p.tables e below (T56.setTop (mkF m 64 #[.val (.int p1), .val (.int p2), .val (.int p3), .val (.int p4), .val (.int p5), .val (.int p6), .val (.int (2 : Int32)), .val (.int f0), .val (.int f1), .val (.int f2), .val (.ref b51), .val (.ref b52), .unset, .unset, .unset, .unset, .unset] [(.int (2 : Int32)), (.int (1 : Int32)), (.ref b51)])) _
      refine st58 _ ?_
      show Steps p.tables e below (T58.setTop (mkF m 65 #[.val (.int p1), .val (.int p2), .val (.int p3), .val (.int p4), .val (.int p5), .val (.int p6), .val (.int (2 : Int32)), .val (.int f0), .val (.int f1), .val (.int f2), .val (.ref b51), .val (.ref b52), .unset, .unset, .unset, .unset, .unset] [])) _
      refine XS.aload X58.here hx rfl (hb hby at_65) rfl rfl ?_
      show Steps p.tables e below (T58.setTop (mkF m 67 #[.val (.int p1), .val (.int p2), .val (.int p3), .val (.int p4), .val (.int p5), .val (.int p6), .val (.int (2 : Int32)), .val (.int f0), .val (.int f1), .val (.int f2), .val (.ref b51), .val (.ref b52), .unset, .unset, .unset, .unset, .unset] [(.ref b52)])) _
      refine XS.iconst X58.here hx rfl (hb hby at_67) ?_
      show Steps p.tables e below (T58.setTop (mkF m 68 #[.val (.int p1), .val (.int p2), .val (.int p3), .val (.int p4), .val (.int p5), .val (.int p6), .val (.int (2 : Int32)), .val (.int f0), .val (.int f1), .val (.int f2), .val (.ref b51), .val (.ref b52), .unset, .unset, .unset, .unset, .unset] [(.int (1 : Int32)), (.ref b52)])) _
      refine XS.iload X58.here hx rfl (hb hby at_68) rfl ?_
      show Steps p.tables e below (T58.setTop (mkF m 70 #[.val (.int p1), .val (.int p2), .val (.int p3), .val (.int p4), .val (.int p5), .val (.int p6), .val (.int (2 : Int32)), .val (.int f0), .val (.int f1), .val (.int f2), .val (.ref b51), .val (.ref b52), .unset, .unset, .unset, .unset, .unset] [(.int f1), (.int (1 : Int32)), (.ref b52)])) _
      refine st60 _ ?_
      show Steps p.tables e below (T60.setTop (mkF m 71 #[.val (.int p1), .val (.int p2), .val (.int p3), .val (.int p4), .val (.int p5), .val (.int p6), .val (.int (2 : Int32)), .val (.int f0), .val (.int f1), .val (.int f2), .val (.ref b51), .val (.ref b52), .unset, .unset, .unset, .unset, .unset] [])) _
      refine XS.iload X60.here hx rfl (hb hby at_71) rfl ?_
      show Steps p.tables e below (T60.setTop (mkF m 73 #[.val (.int p1), .val (.int p2), .val (.int p3), .val (.int p4), .val (.int p5), .val (.int p6), .val (.int (2 : Int32)), .val (.int f0), .val (.int f1), .val (.int f2), .val (.ref b51), .val (.ref b52), .unset, .unset, .unset, .unset, .unset] [(.int (2 : Int32))])) _
      refine XS.iconst X60.here hx rfl (hb hby at_73) ?_
      show Steps p.tables e below (T60.setTop (mkF m 74 #[.val (.int p1), .val (.int p2), .val (.int p3), .val (.int p4), .val (.int p5), .val (.int p6), .val (.int (2 : Int32)), .val (.int f0), .val (.int f1), .val (.int f2), .val (.ref b51), .val (.ref b52), .unset, .unset, .unset, .unset, .unset] [(.int (2 : Int32)), (.int (2 : Int32))])) _
      refine XS.icmpYes X60.here hx rfl (pc0 := 74) (pc' := 88) rfl (hb hby at_74) rfl (flt ((by decide) : ¬ ((2 : Int32) < (2 : Int32)))).2.2.2 (by decide) (by decide) ?_
      show Steps p.tables e below (T60.setTop (mkF m 88 #[.val (.int p1), .val (.int p2), .val (.int p3), .val (.int p4), .val (.int p5), .val (.int p6), .val (.int (2 : Int32)), .val (.int f0), .val (.int f1), .val (.int f2), .val (.ref b51), .val (.ref b52), .unset, .unset, .unset, .unset, .unset] [])) _
      refine XS.iload X60.here hx rfl (hb hby at_88) rfl ?_
      show Steps p.tables e below (T60.setTop (mkF m 90 #[.val (.int p1), .val (.int p2), .val (.int p3), .val (.int p4), .val (.int p5), .val (.int p6), .val (.int (2 : Int32)), .val (.int f0), .val (.int f1), .val (.int f2), .val (.ref b51), .val (.ref b52), .unset, .unset, .unset, .unset, .unset] [(.int (2 : Int32))])) _
      refine XS.ifNo X60.here hx rfl (hb hby at_90) rfl ((if0 _ _).trans (tlt ((by decide) : (0 : Int32) < (2 : Int32))).2.2.2) ?_
      show Steps p.tables e below (T60.setTop (mkF m 93 #[.val (.int p1), .val (.int p2), .val (.int p3), .val (.int p4), .val (.int p5), .val (.int p6), .val (.int (2 : Int32)), .val (.int f0), .val (.int f1), .val (.int f2), .val (.ref b51), .val (.ref b52), .unset, .unset, .unset, .unset, .unset] [])) _
      refine XS.iload X60.here hx rfl (hb hby at_93) rfl ?_
      show Steps p.tables e below (T60.setTop (mkF m 95 #[.val (.int p1), .val (.int p2), .val (.int p3), .val (.int p4), .val (.int p5), .val (.int p6), .val (.int (2 : Int32)), .val (.int f0), .val (.int f1), .val (.int f2), .val (.ref b51), .val (.ref b52), .unset, .unset, .unset, .unset, .unset] [(.int f0)])) _
      refine XS.goto X60.here hx rfl (pc0 := 95) (pc' := 99) rfl (hb hby at_95) (by decide) (by decide) ?_
      show Steps p.tables e below (T60.setTop (mkF m 99 #[.val (.int p1), .val (.int p2), .val (.int p3), .val (.int p4), .val (.int p5), .val (.int p6), .val (.int (2 : Int32)), .val (.int f0), .val (.int f1), .val (.int f2), .val (.ref b51), .val (.ref b52), .unset, .unset, .unset, .unset, .unset] [(.int f0)])) _
      refine XS.iload X60.here hx rfl (hb hby at_99) rfl ?_
      show Steps p.tables e below (T60.setTop (mkF m 101 #[.val (.int p1), .val (.int p2), .val (.int p3), .val (.int p4), .val (.int p5), .val (.int p6), .val (.int (2 : Int32)), .val (.int f0), .val (.int f1), .val (.int f2), .val (.ref b51), .val (.ref b52), .unset, .unset, .unset, .unset, .unset] [(.int (2 : Int32)), (.int f0)])) _
      refine XS.iconst X60.here hx rfl (hb hby at_101) ?_
      show Steps p.tables e below (T60.setTop (mkF m 102 #[.val (.int p1), .val (.int p2), .val (.int p3), .val (.int p4), .val (.int p5), .val (.int p6), .val (.int (2 : Int32)), .val (.int f0), .val (.int f1), .val (.int f2), .val (.ref b51), .val (.ref b52), .unset, .unset, .unset, .unset, .unset] [(.int (1 : Int32)), (.int (2 : Int32)), (.int f0)])) _
      refine XS.icmpNo X60.here hx rfl (hb hby at_102) rfl (tlt ((by decide) : (1 : Int32) < (2 : Int32))).2.2.2 ?_
      show Steps p.tables e below (T60.setTop (mkF m 105 #[.val (.int p1), .val (.int p2), .val (.int p3), .val (.int p4), .val (.int p5), .val (.int p6), .val (.int (2 : Int32)), .val (.int f0), .val (.int f1), .val (.int f2), .val (.ref b51), .val (.ref b52), .unset, .unset, .unset, .unset, .unset] [(.int f0)])) _
      refine XS.iload X60.here hx rfl (hb hby at_105) rfl ?_
      show Steps p.tables e below (T60.setTop (mkF m 107 #[.val (.int p1), .val (.int p2), .val (.int p3), .val (.int p4), .val (.int p5), .val (.int p6), .val (.int (2 : Int32)), .val (.int f0), .val (.int f1), .val (.int f2), .val (.ref b51), .val (.ref b52), .unset, .unset, .unset, .unset, .unset] [(.int f1), (.int f0)])) _
      refine XS.goto X60.here hx rfl (pc0 := 107) (pc' := 111) rfl (hb hby at_107) (by decide) (by decide) ?_
      show Steps p.tables e below (T60.setTop (mkF m 111 #[.val (.int p1), .val (.int p2), .val (.int p3), .val (.int p4), .val (.int p5), .val (.int p6), .val (.int (2 : Int32)), .val (.int f0), .val (.int f1), .val (.int f2), .val (.ref b51), .val (.ref b52), .unset, .unset, .unset, .unset, .unset] [(.int f1), (.int f0)])) _
      refine XS.iadd X60.here hx rfl (hb hby at_111) rfl ?_
      show Steps p.tables e below (T60.setTop (mkF m 112 #[.val (.int p1), .val (.int p2), .val (.int p3), .val (.int p4), .val (.int p5), .val (.int p6), .val (.int (2 : Int32)), .val (.int f0), .val (.int f1), .val (.int f2), .val (.ref b51), .val (.ref b52), .unset, .unset, .unset, .unset, .unset] [(.int (f0 + f1))])) _
      refine XS.iload X60.here hx rfl (hb hby at_112) rfl ?_
      show Steps p.tables e below (T60.setTop (mkF m 114 #[.val (.int p1), .val (.int p2), .val (.int p3), .val (.int p4), .val (.int p5), .val (.int p6), .val (.int (2 : Int32)), .val (.int f0), .val (.int f1), .val (.int f2), .val (.ref b51), .val (.ref b52), .unset, .unset, .unset, .unset, .unset] [(.int (2 : Int32)), (.int (f0 + f1))])) _
      refine XS.iconst X60.here hx rfl (hb hby at_114) ?_
      show Steps p.tables e below (T60.setTop (mkF m 115 #[.val (.int p1), .val (.int p2), .val (.int p3), .val (.int p4), .val (.int p5), .val (.int p6), .val (.int (2 : Int32)), .val (.int f0), .val (.int f1), .val (.int f2), .val (.ref b51), .val (.ref b52), .unset, .unset, .unset, .unset, .unset] [(.int (2 : Int32)), (.int (2 : Int32)), (.int (f0 + f1))])) _
      refine XS.icmpYes X60.here hx rfl (pc0 := 115) (pc' := 123) rfl (hb hby at_115) rfl (flt ((by decide) : ¬ ((2 : Int32) < (2 : Int32)))).2.2.2 (by decide) (by decide) ?_
      show Steps p.tables e below (T60.setTop (mkF m 123 #[.val (.int p1), .val (.int p2), .val (.int p3), .val (.int p4), .val (.int p5), .val (.int p6), .val (.int (2 : Int32)), .val (.int f0), .val (.int f1), .val (.int f2), .val (.ref b51), .val (.ref b52), .unset, .unset, .unset, .unset, .unset] [(.int (f0 + f1))])) _
      refine XS.iconst X60.here hx rfl (hb hby at_123) ?_
      show Steps p.tables e below (T60.setTop (mkF m 124 #[.val (.int p1), .val (.int p2), .val (.int p3), .val (.int p4), .val (.int p5), .val (.int p6), .val (.int (2 : Int32)), .val (.int f0), .val (.int f1), .val (.int f2), .val (.ref b51), .val (.ref b52), .unset, .unset, .unset, .unset, .unset] [(.int (0 : Int32)), (.int (f0 + f1))])) _
      refine XS.iadd X60.here hx rfl (hb hby at_124) rfl ?_
      exact k)
    obtain ⟨tot, h_tot⟩ : ∃ z : Int32, z = ((f0 + f1) + (0 : Int32)) := ⟨_, rfl⟩
    rw [← h_tot] at pre61
    rw [← h_tot] at htot
    have pre62 : ∀ t, Steps p.tables e below (T60.setTop (mkF m 131 #[.val (.int p1), .val (.int p2), .val (.int p3), .val (.int p4), .val (.int p5), .val (.int p6), .val (.int (2 : Int32)), .val (.int f0), .val (.int f1), .val (.int f2), .val (.ref b51), .val (.ref b52), .val (.int tot), .unset, .unset, .unset, .unset] [(.int (p6 &&& (1 : Int32)))])) t → Steps p.tables e below (s₁.setTop (entryFrame m #[(.int p1), (.int p2), (.int p3), (.int p4), (.int p5), (.int p6)] maxLocals)) t := fun t k => pre61 t (by
      show Steps p.tables e below (T60.setTop (mkF m 125 #[.val (.int p1), .val (.int p2), .val (.int p3), .val (.int p4), .val (.int p5), .val (.int p6), .val (.int (2 : Int32)), .val (.int f0), .val (.int f1), .val (.int f2), .val (.ref b51), .val (.ref b52), .unset, .unset, .unset, .unset, .unset] [(.int tot)])) _
      refine XS.istore X60.here hx rfl (hb hby at_125) rfl (l' := #[.val (.int p1), .val (.int p2), .val (.int p3), .val (.int p4), .val (.int p5), .val (.int p6), .val (.int (2 : Int32)), .val (.int f0), .val (.int f1), .val (.int f2), .val (.ref b51), .val (.ref b52), .val (.int tot), .unset, .unset, .unset, .unset]) rfl ?_
      show Steps p.tables e below (T60.setTop (mkF m 127 #[.val (.int p1), .val (.int p2), .val (.int p3), .val (.int p4), .val (.int p5), .val (.int p6), .val (.int (2 : Int32)), .val (.int f0), .val (.int f1), .val (.int f2), .val (.ref b51), .val (.ref b52), .val (.int tot), .unset, .unset, .unset, .unset] [])) _
      refine XS.iload X60.here hx rfl (hb hby at_127) rfl ?_
      show Steps p.tables e below (T60.setTop (mkF m 129 #[.val (.int p1), .val (.int p2), .val (.int p3), .val (.int p4), .val (.int p5), .val (.int p6), .val (.int (2 : Int32)), .val (.int f0), .val (.int f1), .val (.int f2), .val (.ref b51), .val (.ref b52), .val (.int tot), .unset, .unset, .unset, .unset] [(.int p6)])) _
      refine XS.iconst X60.here hx rfl (hb hby at_129) ?_
      show Steps p.tables e below (T60.setTop (mkF m 130 #[.val (.int p1), .val (.int p2), .val (.int p3), .val (.int p4), .val (.int p5), .val (.int p6), .val (.int (2 : Int32)), .val (.int f0), .val (.int f1), .val (.int f2), .val (.ref b51), .val (.ref b52), .val (.int tot), .unset, .unset, .unset, .unset] [(.int (1 : Int32)), (.int p6)])) _
      refine XS.iand X60.here hx rfl (hb hby at_130) rfl ?_
      exact k)
    rcases hp2 with hp | hp
    · obtain ⟨T63, h63, X63, e63, E63, A63, D63, -, st63⟩ := newO X60 hx hZ hown (hw _ (List.mem_of_getElem? (i := 1) rfl)) (hw _ (List.mem_of_getElem? (i := 2) rfl)) (hw _ (List.mem_of_getElem? (i := 3) rfl)) e60 (g := (mkF m 181 #[.val (.int p1), .val (.int p2), .val (.int p3), .val (.int p4), .val (.int p5), .val (.int p6), .val (.int (2 : Int32)), .val (.int f0), .val (.int f1), .val (.int f2), .val (.ref b51), .val (.ref b52), .val (.int tot), .val (.int (0 : Int32)), .val .null, .unset, .unset] [])) rfl (hb hby at_181) (by decide) (by decide)
      obtain ⟨b63, g63⟩ : ∃ z, z = h60.size := ⟨_, rfl⟩
      rw [← g63] at A63 D63 st63
      have ne_b51_b63 : b51 ≠ b63 := Nat.ne_of_lt (Nat.lt_of_lt_of_le (V60_0).lt (Nat.le_of_eq g63.symm))
      have ne_b52_b63 : b52 ≠ b63 := Nat.ne_of_lt (Nat.lt_of_lt_of_le (V_b52_60).lt (Nat.le_of_eq g63.symm))
      have g_b63 : n0 ≤ b63 := Nat.le_trans z60 (Nat.le_of_eq g63.symm)
      have V63_0 := V60_0.ext E63
      have V63_1 := V_b52_60.ext E63
      have z63 : n0 ≤ h63.size := Nat.le_trans z60 E63.1
      have F_documents_b63 : Fld Z h63 b63 "com/example/cranfield/cranfield/index/Postings" "documents" "[I" .null := D63 (Or.inr (hw _ (List.mem_of_getElem? (i := 11) rfl))) (ty := (.array .int)) (by decide)
      have F_frequencies_b63 : Fld Z h63 b63 "com/example/cranfield/cranfield/index/Postings" "frequencies" "[I" .null := D63 (Or.inr (hw _ (List.mem_of_getElem? (i := 13) rfl))) (ty := (.array .int)) (by decide)
      have F_positions_b63 : Fld Z h63 b63 "com/example/cranfield/cranfield/index/Postings" "positions" "[I" .null := D63 (Or.inr (hw _ (List.mem_of_getElem? (i := 15) rfl))) (ty := (.array .int)) (by decide)
      have F_firstPositions_b63 : Fld Z h63 b63 "com/example/cranfield/cranfield/index/Postings" "firstPositions" "[I" .null := D63 (Or.inr (hw _ (List.mem_of_getElem? (i := 17) rfl))) (ty := (.array .int)) (by decide)
      obtain ⟨_, _, ⟨T64, L64, k64, n64⟩, -, X64, ⟨Lc64, hQ64, l64, y64, z64⟩, st64⟩ := X63.specialBack hx (y := (⟨"com/example/cranfield/cranfield/index/Postings", "<init>", "([I[I[I)V"⟩ : MethodName)) rfl hown (mvT hZ (hw _ (List.mem_of_getElem? (i := 4) rfl))) (mvT hZ (hw _ (List.mem_of_getElem? (i := 5) rfl))) (mvT hZ (hw _ (List.mem_of_getElem? (i := 6) rfl))) (by decide) (backOf (W := 1) (rmIn l Z a0 hw [] b63 b51 b52  h63 n0 z63 A63 g_b63 F_documents_b63 F_frequencies_b63 F_positions_b63 F_firstPositions_b63) hZ (hw _ (List.mem_of_getElem? (i := 6) rfl)) (hw _ (List.mem_of_getElem? (i := 3) rfl)) (by decide) (by decide)) (g := (mkF m 191 #[.val (.int p1), .val (.int p2), .val (.int p3), .val (.int p4), .val (.int p5), .val (.int p6), .val (.int (2 : Int32)), .val (.int f0), .val (.int f1), .val (.int f2), .val (.ref b51), .val (.ref b52), .val (.int tot), .val (.int (0 : Int32)), .val .null, .unset, .unset] [.null, (.ref b52), (.ref b51), (.ref b63), (.ref b63)])) rfl (by rw [hml]; rfl) (Steps.refl _) (a := b63) (argsL := [(.ref b51), (.ref b52), .null]) (rest := [(.ref b63)]) (lenOf own_pd0 rfl) rfl (by show 2 * 0 + _ ≤ _; exact Nat.le_of_eq rfl) (hb hby at_191) (fun _ _ => ⟨rfl, e63, (by decide : 3 + 0 ≤ _), (by decide : 8 + 0 ≤ _)⟩)
      dsimp only [Pt.U, Pt.locs, Pt.cells, Pt.slots] at X64 l64 y64 z64 st64 hQ64
      subst l64 y64 z64
      obtain ⟨h64, e64⟩ : ∃ z, T64.heap = z := ⟨_, rfl⟩
      rw [e64] at hQ64
      obtain ⟨rfl, N64q, Kc64, fp64⟩ := hQ64
      have N64 := Fr.app N60 N64q
      have X64_1035 := A63.keep Kc64
      have V64_1036 := V63_0.keep Kc64 (ninS ne_b51_b63 nin0)
      have V64_1037 := V63_1.keep Kc64 (ninS ne_b52_b63 nin0)
      have z64 : n0 ≤ h64.size := Nat.le_trans z63 Kc64.1
      obtain ⟨cq65, kq65, q65a, q65b, q65c⟩ := isOf hZ e64 X64_1035
      obtain ⟨_, _, ⟨T65, L65, k65, n65⟩, -, X65, ⟨Lc65, hQ65, l65, y65, z65⟩, st65⟩ := X64.virtualBack hx (y := (⟨"com/example/cranfield/cranfield/index/Postings", "positionCount", "()I"⟩ : MethodName)) (z := (⟨"com/example/cranfield/cranfield/index/Postings", "positionCount", "()I"⟩ : MethodName)) hown (mvT hZ (hw _ (List.mem_of_getElem? (i := 18) rfl))) (mvT hZ (hw _ (List.mem_of_getElem? (i := 19) rfl))) (notFace_of_selects (args := #[]) (mvT hZ (hw _ (List.mem_of_getElem? (i := 21) rfl)))) (mvT hZ (hw _ (List.mem_of_getElem? (i := 21) rfl))) (mvT hZ (hw _ (List.mem_of_getElem? (i := 20) rfl))) (by decide) (backOf (W := 0) (rmPn l Z a0 hw [] b63  h64 n0 z64 fp64) hZ (hw _ (List.mem_of_getElem? (i := 22) rfl)) (hw _ (List.mem_of_getElem? (i := 3) rfl)) (by decide) (by decide)) q65a q65c (g := (mkF m 198 #[.val (.int p1), .val (.int p2), .val (.int p3), .val (.int p4), .val (.int p5), .val (.int p6), .val (.int (2 : Int32)), .val (.int f0), .val (.int f1), .val (.int f2), .val (.ref b51), .val (.ref b52), .val (.int tot), .val (.int (0 : Int32)), .val .null, .val (.ref b63), .unset] [(.ref b63)])) rfl (by rw [hml]; rfl) (Steps.refl _) (argsL := []) (rest := []) (lenOf own_pd1 rfl) rfl (by show 2 * 0 + _ ≤ _; exact Nat.le_of_eq rfl) (hb hby at_198) (fun _ _ => ⟨rfl, e64, (by decide : 3 + 0 ≤ _), (by decide : 8 + 0 ≤ _)⟩)
      dsimp only [Pt.U, Pt.locs, Pt.cells, Pt.slots] at X65 l65 y65 z65 st65 hQ65
      subst l65 y65 z65
      obtain ⟨rfl, N65q, e65⟩ := hQ65
      have N65 := Fr.app N64 N65q
      obtain ⟨cq66, kq66, q66a, q66b, q66c⟩ := isOf hZ e65 X64_1035
      obtain ⟨_, _, ⟨T66, L66, k66, n66⟩, -, X66, ⟨Lc66, hQ66, l66, y66, z66⟩, st66⟩ := X65.virtualBack hx (y := (⟨"com/example/cranfield/cranfield/index/Postings", "hasPositions", "()Z"⟩ : MethodName)) (z := (⟨"com/example/cranfield/cranfield/index/Postings", "hasPositions", "()Z"⟩ : MethodName)) hown (mvT hZ (hw _ (List.mem_of_getElem? (i := 23) rfl))) (mvT hZ (hw _ (List.mem_of_getElem? (i := 24) rfl))) (notFace_of_selects (args := #[]) (mvT hZ (hw _ (List.mem_of_getElem? (i := 26) rfl)))) (mvT hZ (hw _ (List.mem_of_getElem? (i := 26) rfl))) (mvT hZ (hw _ (List.mem_of_getElem? (i := 25) rfl))) (by decide) (backOf (W := 0) (rmHn l Z a0 hw [] b63  h64 n0 z64 fp64) hZ (hw _ (List.mem_of_getElem? (i := 27) rfl)) (hw _ (List.mem_of_getElem? (i := 3) rfl)) (by decide) (by decide)) q66a q66c (g := (mkF m 205 #[.val (.int p1), .val (.int p2), .val (.int p3), .val (.int p4), .val (.int p5), .val (.int p6), .val (.int (2 : Int32)), .val (.int f0), .val (.int f1), .val (.int f2), .val (.ref b51), .val (.ref b52), .val (.int tot), .val (.int (0 : Int32)), .val .null, .val (.ref b63), .val (.int (0 : Int32))] [(.ref b63)])) rfl (by rw [hml]; rfl) (Steps.refl _) (argsL := []) (rest := []) (lenOf own_pd2 rfl) rfl (by show 2 * 0 + _ ≤ _; exact Nat.le_of_eq rfl) (hb hby at_205) (fun _ _ => ⟨rfl, e65, (by decide : 3 + 0 ≤ _), (by decide : 8 + 0 ≤ _)⟩)
      dsimp only [Pt.U, Pt.locs, Pt.cells, Pt.slots] at X66 l66 y66 z66 st66 hQ66
      subst l66 y66 z66
      obtain ⟨rfl, N66q, e66⟩ := hQ66
      have N66 := Fr.app N65 N66q
      have pre67 : ∀ t, Steps p.tables e below (T66.setTop (mkF m 243 #[.val (.int p1), .val (.int p2), .val (.int p3), .val (.int p4), .val (.int p5), .val (.int p6), .val (.int (2 : Int32)), .val (.int f0), .val (.int f1), .val (.int f2), .val (.ref b51), .val (.ref b52), .val (.int tot), .val (.int (0 : Int32)), .val .null, .val (.ref b63), .val (.int (0 : Int32))] [(.int (1 : Int32))])) t → Steps p.tables e below (s₁.setTop (entryFrame m #[(.int p1), (.int p2), (.int p3), (.int p4), (.int p5), (.int p6)] maxLocals)) t := fun t k => pre62 t (by
        show Steps p.tables e below (T60.setTop (mkF m 131 #[.val (.int p1), .val (.int p2), .val (.int p3), .val (.int p4), .val (.int p5), .val (.int p6), .val (.int (2 : Int32)), .val (.int f0), .val (.int f1), .val (.int f2), .val (.ref b51), .val (.ref b52), .val (.int tot), .unset, .unset, .unset, .unset] [(.int (p6 &&& (1 : Int32)))])) _
        refine XS.ifYes X60.here hx rfl (pc0 := 131) (pc' := 138) rfl (hb hby at_131) rfl ((if0 _ _).trans (teq (hp : (p6 &&& (1 : Int32)) = (0 : Int32))).1) (by decide) (by decide) ?_
        show Steps p.tables e below (T60.setTop (mkF m 138 #[.val (.int p1), .val (.int p2), .val (.int p3), .val (.int p4), .val (.int p5), .val (.int p6), .val (.int (2 : Int32)), .val (.int f0), .val (.int f1), .val (.int f2), .val (.ref b51), .val (.ref b52), .val (.int tot), .unset, .unset, .unset, .unset] [])) _
        refine XS.iconst X60.here hx rfl (hb hby at_138) ?_
        show Steps p.tables e below (T60.setTop (mkF m 139 #[.val (.int p1), .val (.int p2), .val (.int p3), .val (.int p4), .val (.int p5), .val (.int p6), .val (.int (2 : Int32)), .val (.int f0), .val (.int f1), .val (.int f2), .val (.ref b51), .val (.ref b52), .val (.int tot), .unset, .unset, .unset, .unset] [(.int (0 : Int32))])) _
        refine XS.istore X60.here hx rfl (hb hby at_139) rfl (l' := #[.val (.int p1), .val (.int p2), .val (.int p3), .val (.int p4), .val (.int p5), .val (.int p6), .val (.int (2 : Int32)), .val (.int f0), .val (.int f1), .val (.int f2), .val (.ref b51), .val (.ref b52), .val (.int tot), .val (.int (0 : Int32)), .unset, .unset, .unset]) rfl ?_
        show Steps p.tables e below (T60.setTop (mkF m 141 #[.val (.int p1), .val (.int p2), .val (.int p3), .val (.int p4), .val (.int p5), .val (.int p6), .val (.int (2 : Int32)), .val (.int f0), .val (.int f1), .val (.int f2), .val (.ref b51), .val (.ref b52), .val (.int tot), .val (.int (0 : Int32)), .unset, .unset, .unset] [])) _
        refine XS.aconstNull X60.here hx rfl (hb hby at_141) ?_
        show Steps p.tables e below (T60.setTop (mkF m 142 #[.val (.int p1), .val (.int p2), .val (.int p3), .val (.int p4), .val (.int p5), .val (.int p6), .val (.int (2 : Int32)), .val (.int f0), .val (.int f1), .val (.int f2), .val (.ref b51), .val (.ref b52), .val (.int tot), .val (.int (0 : Int32)), .unset, .unset, .unset] [.null])) _
        refine XS.astore X60.here hx rfl (hb hby at_142) rfl rfl (l' := #[.val (.int p1), .val (.int p2), .val (.int p3), .val (.int p4), .val (.int p5), .val (.int p6), .val (.int (2 : Int32)), .val (.int f0), .val (.int f1), .val (.int f2), .val (.ref b51), .val (.ref b52), .val (.int tot), .val (.int (0 : Int32)), .val .null, .unset, .unset]) rfl ?_
        show Steps p.tables e below (T60.setTop (mkF m 144 #[.val (.int p1), .val (.int p2), .val (.int p3), .val (.int p4), .val (.int p5), .val (.int p6), .val (.int (2 : Int32)), .val (.int f0), .val (.int f1), .val (.int f2), .val (.ref b51), .val (.ref b52), .val (.int tot), .val (.int (0 : Int32)), .val .null, .unset, .unset] [])) _
        refine XS.iload X60.here hx rfl (hb hby at_144) rfl ?_
        show Steps p.tables e below (T60.setTop (mkF m 146 #[.val (.int p1), .val (.int p2), .val (.int p3), .val (.int p4), .val (.int p5), .val (.int p6), .val (.int (2 : Int32)), .val (.int f0), .val (.int f1), .val (.int f2), .val (.ref b51), .val (.ref b52), .val (.int tot), .val (.int (0 : Int32)), .val .null, .unset, .unset] [(.int (0 : Int32))])) _
        refine XS.ifYes X60.here hx rfl (pc0 := 146) (pc' := 181) rfl (hb hby at_146) rfl ((if0 _ _).trans (teq ((by decide) : (0 : Int32) = (0 : Int32))).1) (by decide) (by decide) ?_
        show Steps p.tables e below (T60.setTop (mkF m 181 #[.val (.int p1), .val (.int p2), .val (.int p3), .val (.int p4), .val (.int p5), .val (.int p6), .val (.int (2 : Int32)), .val (.int f0), .val (.int f1), .val (.int f2), .val (.ref b51), .val (.ref b52), .val (.int tot), .val (.int (0 : Int32)), .val .null, .unset, .unset] [])) _
        refine st63 _ ?_
        show Steps p.tables e below (T63.setTop (mkF m 184 #[.val (.int p1), .val (.int p2), .val (.int p3), .val (.int p4), .val (.int p5), .val (.int p6), .val (.int (2 : Int32)), .val (.int f0), .val (.int f1), .val (.int f2), .val (.ref b51), .val (.ref b52), .val (.int tot), .val (.int (0 : Int32)), .val .null, .unset, .unset] [(.ref b63)])) _
        refine XS.dup X63.here hx rfl (hb hby at_184) rfl rfl ?_
        show Steps p.tables e below (T63.setTop (mkF m 185 #[.val (.int p1), .val (.int p2), .val (.int p3), .val (.int p4), .val (.int p5), .val (.int p6), .val (.int (2 : Int32)), .val (.int f0), .val (.int f1), .val (.int f2), .val (.ref b51), .val (.ref b52), .val (.int tot), .val (.int (0 : Int32)), .val .null, .unset, .unset] [(.ref b63), (.ref b63)])) _
        refine XS.aload X63.here hx rfl (hb hby at_185) rfl rfl ?_
        show Steps p.tables e below (T63.setTop (mkF m 187 #[.val (.int p1), .val (.int p2), .val (.int p3), .val (.int p4), .val (.int p5), .val (.int p6), .val (.int (2 : Int32)), .val (.int f0), .val (.int f1), .val (.int f2), .val (.ref b51), .val (.ref b52), .val (.int tot), .val (.int (0 : Int32)), .val .null, .unset, .unset] [(.ref b51), (.ref b63), (.ref b63)])) _
        refine XS.aload X63.here hx rfl (hb hby at_187) rfl rfl ?_
        show Steps p.tables e below (T63.setTop (mkF m 189 #[.val (.int p1), .val (.int p2), .val (.int p3), .val (.int p4), .val (.int p5), .val (.int p6), .val (.int (2 : Int32)), .val (.int f0), .val (.int f1), .val (.int f2), .val (.ref b51), .val (.ref b52), .val (.int tot), .val (.int (0 : Int32)), .val .null, .unset, .unset] [(.ref b52), (.ref b51), (.ref b63), (.ref b63)])) _
        refine XS.aload X63.here hx rfl (hb hby at_189) rfl rfl ?_
        show Steps p.tables e below (T63.setTop (mkF m 191 #[.val (.int p1), .val (.int p2), .val (.int p3), .val (.int p4), .val (.int p5), .val (.int p6), .val (.int (2 : Int32)), .val (.int f0), .val (.int f1), .val (.int f2), .val (.ref b51), .val (.ref b52), .val (.int tot), .val (.int (0 : Int32)), .val .null, .unset, .unset] [.null, (.ref b52), (.ref b51), (.ref b63), (.ref b63)])) _
        refine st64.trans ?_
        show Steps p.tables e below (T64.setTop (mkF m 194 #[.val (.int p1), .val (.int p2), .val (.int p3), .val (.int p4), .val (.int p5), .val (.int p6), .val (.int (2 : Int32)), .val (.int f0), .val (.int f1), .val (.int f2), .val (.ref b51), .val (.ref b52), .val (.int tot), .val (.int (0 : Int32)), .val .null, .unset, .unset] [(.ref b63)])) _
        refine XS.astore X64.here hx rfl (hb hby at_194) rfl rfl (l' := #[.val (.int p1), .val (.int p2), .val (.int p3), .val (.int p4), .val (.int p5), .val (.int p6), .val (.int (2 : Int32)), .val (.int f0), .val (.int f1), .val (.int f2), .val (.ref b51), .val (.ref b52), .val (.int tot), .val (.int (0 : Int32)), .val .null, .val (.ref b63), .unset]) rfl ?_
        show Steps p.tables e below (T64.setTop (mkF m 196 #[.val (.int p1), .val (.int p2), .val (.int p3), .val (.int p4), .val (.int p5), .val (.int p6), .val (.int (2 : Int32)), .val (.int f0), .val (.int f1), .val (.int f2), .val (.ref b51), .val (.ref b52), .val (.int tot), .val (.int (0 : Int32)), .val .null, .val (.ref b63), .unset] [])) _
        refine XS.aload X64.here hx rfl (hb hby at_196) rfl rfl ?_
        show Steps p.tables e below (T64.setTop (mkF m 198 #[.val (.int p1), .val (.int p2), .val (.int p3), .val (.int p4), .val (.int p5), .val (.int p6), .val (.int (2 : Int32)), .val (.int f0), .val (.int f1), .val (.int f2), .val (.ref b51), .val (.ref b52), .val (.int tot), .val (.int (0 : Int32)), .val .null, .val (.ref b63), .unset] [(.ref b63)])) _
        refine st65.trans ?_
        show Steps p.tables e below (T65.setTop (mkF m 201 #[.val (.int p1), .val (.int p2), .val (.int p3), .val (.int p4), .val (.int p5), .val (.int p6), .val (.int (2 : Int32)), .val (.int f0), .val (.int f1), .val (.int f2), .val (.ref b51), .val (.ref b52), .val (.int tot), .val (.int (0 : Int32)), .val .null, .val (.ref b63), .unset] [(.int (0 : Int32))])) _
        refine XS.istore X65.here hx rfl (hb hby at_201) rfl (l' := #[.val (.int p1), .val (.int p2), .val (.int p3), .val (.int p4), .val (.int p5), .val (.int p6), .val (.int (2 : Int32)), .val (.int f0), .val (.int f1), .val (.int f2), .val (.ref b51), .val (.ref b52), .val (.int tot), .val (.int (0 : Int32)), .val .null, .val (.ref b63), .val (.int (0 : Int32))]) rfl ?_
        show Steps p.tables e below (T65.setTop (mkF m 203 #[.val (.int p1), .val (.int p2), .val (.int p3), .val (.int p4), .val (.int p5), .val (.int p6), .val (.int (2 : Int32)), .val (.int f0), .val (.int f1), .val (.int f2), .val (.ref b51), .val (.ref b52), .val (.int tot), .val (.int (0 : Int32)), .val .null, .val (.ref b63), .val (.int (0 : Int32))] [])) _
        refine XS.aload X65.here hx rfl (hb hby at_203) rfl rfl ?_
        show Steps p.tables e below (T65.setTop (mkF m 205 #[.val (.int p1), .val (.int p2), .val (.int p3), .val (.int p4), .val (.int p5), .val (.int p6), .val (.int (2 : Int32)), .val (.int f0), .val (.int f1), .val (.int f2), .val (.ref b51), .val (.ref b52), .val (.int tot), .val (.int (0 : Int32)), .val .null, .val (.ref b63), .val (.int (0 : Int32))] [(.ref b63)])) _
        refine st66.trans ?_
        show Steps p.tables e below (T66.setTop (mkF m 208 #[.val (.int p1), .val (.int p2), .val (.int p3), .val (.int p4), .val (.int p5), .val (.int p6), .val (.int (2 : Int32)), .val (.int f0), .val (.int f1), .val (.int f2), .val (.ref b51), .val (.ref b52), .val (.int tot), .val (.int (0 : Int32)), .val .null, .val (.ref b63), .val (.int (0 : Int32))] [(.int (0 : Int32))])) _
        refine XS.iload X66.here hx rfl (hb hby at_208) rfl ?_
        show Steps p.tables e below (T66.setTop (mkF m 210 #[.val (.int p1), .val (.int p2), .val (.int p3), .val (.int p4), .val (.int p5), .val (.int p6), .val (.int (2 : Int32)), .val (.int f0), .val (.int f1), .val (.int f2), .val (.ref b51), .val (.ref b52), .val (.int tot), .val (.int (0 : Int32)), .val .null, .val (.ref b63), .val (.int (0 : Int32))] [(.int (0 : Int32)), (.int (0 : Int32))])) _
        refine XS.icmpYes X66.here hx rfl (pc0 := 210) (pc' := 215) rfl (hb hby at_210) rfl (teq ((by decide) : (0 : Int32) = (0 : Int32))).1 (by decide) (by decide) ?_
        show Steps p.tables e below (T66.setTop (mkF m 215 #[.val (.int p1), .val (.int p2), .val (.int p3), .val (.int p4), .val (.int p5), .val (.int p6), .val (.int (2 : Int32)), .val (.int f0), .val (.int f1), .val (.int f2), .val (.ref b51), .val (.ref b52), .val (.int tot), .val (.int (0 : Int32)), .val .null, .val (.ref b63), .val (.int (0 : Int32))] [])) _
        refine XS.iload X66.here hx rfl (hb hby at_215) rfl ?_
        show Steps p.tables e below (T66.setTop (mkF m 217 #[.val (.int p1), .val (.int p2), .val (.int p3), .val (.int p4), .val (.int p5), .val (.int p6), .val (.int (2 : Int32)), .val (.int f0), .val (.int f1), .val (.int f2), .val (.ref b51), .val (.ref b52), .val (.int tot), .val (.int (0 : Int32)), .val .null, .val (.ref b63), .val (.int (0 : Int32))] [(.int (0 : Int32))])) _
        refine XS.ifYes X66.here hx rfl (pc0 := 217) (pc' := 233) rfl (hb hby at_217) rfl ((if0 _ _).trans (teq ((by decide) : (0 : Int32) = (0 : Int32))).1) (by decide) (by decide) ?_
        show Steps p.tables e below (T66.setTop (mkF m 233 #[.val (.int p1), .val (.int p2), .val (.int p3), .val (.int p4), .val (.int p5), .val (.int p6), .val (.int (2 : Int32)), .val (.int f0), .val (.int f1), .val (.int f2), .val (.ref b51), .val (.ref b52), .val (.int tot), .val (.int (0 : Int32)), .val .null, .val (.ref b63), .val (.int (0 : Int32))] [])) _
        refine XS.iload X66.here hx rfl (hb hby at_233) rfl ?_
        show Steps p.tables e below (T66.setTop (mkF m 235 #[.val (.int p1), .val (.int p2), .val (.int p3), .val (.int p4), .val (.int p5), .val (.int p6), .val (.int (2 : Int32)), .val (.int f0), .val (.int f1), .val (.int f2), .val (.ref b51), .val (.ref b52), .val (.int tot), .val (.int (0 : Int32)), .val .null, .val (.ref b63), .val (.int (0 : Int32))] [(.int (0 : Int32))])) _
        refine XS.ifNo X66.here hx rfl (hb hby at_235) rfl ((if0 _ _).trans (teq ((by decide) : (0 : Int32) = (0 : Int32))).2) ?_
        show Steps p.tables e below (T66.setTop (mkF m 238 #[.val (.int p1), .val (.int p2), .val (.int p3), .val (.int p4), .val (.int p5), .val (.int p6), .val (.int (2 : Int32)), .val (.int f0), .val (.int f1), .val (.int f2), .val (.ref b51), .val (.ref b52), .val (.int tot), .val (.int (0 : Int32)), .val .null, .val (.ref b63), .val (.int (0 : Int32))] [])) _
        refine XS.iconst X66.here hx rfl (hb hby at_238) ?_
        show Steps p.tables e below (T66.setTop (mkF m 239 #[.val (.int p1), .val (.int p2), .val (.int p3), .val (.int p4), .val (.int p5), .val (.int p6), .val (.int (2 : Int32)), .val (.int f0), .val (.int f1), .val (.int f2), .val (.ref b51), .val (.ref b52), .val (.int tot), .val (.int (0 : Int32)), .val .null, .val (.ref b63), .val (.int (0 : Int32))] [(.int (1 : Int32))])) _
        refine XS.goto X66.here hx rfl (pc0 := 239) (pc' := 243) rfl (hb hby at_239) (by decide) (by decide) ?_
        exact k)
      obtain ⟨fs, hr, hrun, hended, hW, hsame⟩ := X66.leave (v := some (.int (nar .boolean (1 : Int32)))) (fun h => by rw [Bd.returns] at h; cases h)
      refine ⟨_, _, pre67 _ ?_, hrun, hended, _, _, rfl, ?_, ⟨_, rfl⟩, hW, hsame.mono (by decide) (by decide)⟩
      · show Steps p.tables e below (T66.setTop (mkF m 243 #[.val (.int p1), .val (.int p2), .val (.int p3), .val (.int p4), .val (.int p5), .val (.int p6), .val (.int (2 : Int32)), .val (.int f0), .val (.int f1), .val (.int f2), .val (.ref b51), .val (.ref b52), .val (.int tot), .val (.int (0 : Int32)), .val .null, .val (.ref b63), .val (.int (0 : Int32))] [(.int (1 : Int32))])) _
        exact retN X66 hx (t := .boolean) Bd.returns (by simp) (hb hby at_243) hr
      · show QL n0 _ T66.heap _
        rw [e66]
        exact ⟨rfl, N66⟩
    · obtain ⟨T68, h68, k68, X68, e68, E68, A68, st68⟩ := newP X60 hx hZ (hw _ (List.mem_of_getElem? (i := 0) rfl)) e60 (g := (mkF m 151 #[.val (.int p1), .val (.int p2), .val (.int p3), .val (.int p4), .val (.int p5), .val (.int p6), .val (.int (2 : Int32)), .val (.int f0), .val (.int f1), .val (.int f2), .val (.ref b51), .val (.ref b52), .val (.int tot), .val (.int (1 : Int32)), .val .null, .unset, .unset] [(.int tot)])) rfl (hb hby at_151) rfl (own_tneg htot) (cap := 12) (own_tcap htot) (by decide) (by decide) (by decide)
      obtain ⟨b68, g68⟩ : ∃ z, z = h60.size := ⟨_, rfl⟩
      rw [← g68] at A68 st68
      have ne_b51_b68 : b51 ≠ b68 := Nat.ne_of_lt (Nat.lt_of_lt_of_le (V60_0).lt (Nat.le_of_eq g68.symm))
      have ne_b52_b68 : b52 ≠ b68 := Nat.ne_of_lt (Nat.lt_of_lt_of_le (V_b52_60).lt (Nat.le_of_eq g68.symm))
      have g_b68 : n0 ≤ b68 := Nat.le_trans z60 (Nat.le_of_eq g68.symm)
      have V68_0 := V60_0.ext E68
      have V68_1 := V_b52_60.ext E68
      have z68 : n0 ≤ h68.size := Nat.le_trans z60 E68.1
      have V_b68 : Arv Z h68 b68 k68 .int tot [(.int (0 : Int32))] (.int (0 : Int32)) := (Arv.new A68 (own_tneg htot)).pad (pad_rep [] (.int (0 : Int32)) 1)
      obtain ⟨cl69, Ar69, q69, S69, M69, H69, G69⟩ := id V_b68
      have hin69 : ¬ ((0 : Int32) < 0 ∨ cl69.slots.size ≤ ((0 : Int32)).toNatClampNeg) := inb_of S69 ⟨by decide, own_tpos htot⟩
      obtain ⟨T70, h70, X70, e70, W70, st70⟩ := stI X68 hx hZ e68 Ar69 (j := (0 : Int32)) hin69 (g := (mkF m 165 #[.val (.int p1), .val (.int p2), .val (.int p3), .val (.int p4), .val (.int p5), .val (.int p6), .val (.int (2 : Int32)), .val (.int f0), .val (.int f1), .val (.int f2), .val (.ref b51), .val (.ref b52), .val (.int tot), .val (.int (1 : Int32)), .val (.ref b68), .unset, .unset] [(.int p5), (.int (0 : Int32)), (.ref b68)])) rfl rfl (hb hby at_165)
      have V_b68_70 : Arv Z h70 b68 k68 .int tot [(.int p5)] (.int (0 : Int32)) := Arv.set Ar69 q69 S69 M69 H69 G69 rfl W70 0 rfl (Nat.le_of_ble_eq_true rfl)
      have V70_0 := V68_0.other W70 ne_b51_b68
      have V70_1 := V68_1.other W70 ne_b52_b68
      have z70 : n0 ≤ h70.size := by rw [W70.size]; exact z68
      have N70 := Fr.snoc X70 N60 g_b68
      have pre71 : ∀ t, Steps p.tables e below (T70.setTop (mkF m 169 #[.val (.int p1), .val (.int p2), .val (.int p3), .val (.int p4), .val (.int p5), .val (.int p6), .val (.int (2 : Int32)), .val (.int f0), .val (.int f1), .val (.int f2), .val (.ref b51), .val (.ref b52), .val (.int tot), .val (.int (1 : Int32)), .val (.ref b68), .unset, .unset] [(.int (1 : Int32)), (.int tot)])) t → Steps p.tables e below (s₁.setTop (entryFrame m #[(.int p1), (.int p2), (.int p3), (.int p4), (.int p5), (.int p6)] maxLocals)) t := fun t k => pre62 t (by
        show Steps p.tables e below (T60.setTop (mkF m 131 #[.val (.int p1), .val (.int p2), .val (.int p3), .val (.int p4), .val (.int p5), .val (.int p6), .val (.int (2 : Int32)), .val (.int f0), .val (.int f1), .val (.int f2), .val (.ref b51), .val (.ref b52), .val (.int tot), .unset, .unset, .unset, .unset] [(.int (p6 &&& (1 : Int32)))])) _
        refine XS.ifNo X60.here hx rfl (hb hby at_131) rfl ((if0 _ _).trans (feq ((own_ne0 hp) : ¬ ((p6 &&& (1 : Int32)) = (0 : Int32)))).1) ?_
        show Steps p.tables e below (T60.setTop (mkF m 134 #[.val (.int p1), .val (.int p2), .val (.int p3), .val (.int p4), .val (.int p5), .val (.int p6), .val (.int (2 : Int32)), .val (.int f0), .val (.int f1), .val (.int f2), .val (.ref b51), .val (.ref b52), .val (.int tot), .unset, .unset, .unset, .unset] [])) _
        refine XS.iconst X60.here hx rfl (hb hby at_134) ?_
        show Steps p.tables e below (T60.setTop (mkF m 135 #[.val (.int p1), .val (.int p2), .val (.int p3), .val (.int p4), .val (.int p5), .val (.int p6), .val (.int (2 : Int32)), .val (.int f0), .val (.int f1), .val (.int f2), .val (.ref b51), .val (.ref b52), .val (.int tot), .unset, .unset, .unset, .unset] [(.int (1 : Int32))])) _
        refine XS.goto X60.here hx rfl (pc0 := 135) (pc' := 139) rfl (hb hby at_135) (by decide) (by decide) ?_
        show Steps p.tables e below (T60.setTop (mkF m 139 #[.val (.int p1), .val (.int p2), .val (.int p3), .val (.int p4), .val (.int p5), .val (.int p6), .val (.int (2 : Int32)), .val (.int f0), .val (.int f1), .val (.int f2), .val (.ref b51), .val (.ref b52), .val (.int tot), .unset, .unset, .unset, .unset] [(.int (1 : Int32))])) _
        refine XS.istore X60.here hx rfl (hb hby at_139) rfl (l' := #[.val (.int p1), .val (.int p2), .val (.int p3), .val (.int p4), .val (.int p5), .val (.int p6), .val (.int (2 : Int32)), .val (.int f0), .val (.int f1), .val (.int f2), .val (.ref b51), .val (.ref b52), .val (.int tot), .val (.int (1 : Int32)), .unset, .unset, .unset]) rfl ?_
        show Steps p.tables e below (T60.setTop (mkF m 141 #[.val (.int p1), .val (.int p2), .val (.int p3), .val (.int p4), .val (.int p5), .val (.int p6), .val (.int (2 : Int32)), .val (.int f0), .val (.int f1), .val (.int f2), .val (.ref b51), .val (.ref b52), .val (.int tot), .val (.int (1 : Int32)), .unset, .unset, .unset] [])) _
        refine XS.aconstNull X60.here hx rfl (hb hby at_141) ?_
        show Steps p.tables e below (T60.setTop (mkF m 142 #[.val (.int p1), .val (.int p2), .val (.int p3), .val (.int p4), .val (.int p5), .val (.int p6), .val (.int (2 : Int32)), .val (.int f0), .val (.int f1), .val (.int f2), .val (.ref b51), .val (.ref b52), .val (.int tot), .val (.int (1 : Int32)), .unset, .unset, .unset] [.null])) _
        refine XS.astore X60.here hx rfl (hb hby at_142) rfl rfl (l' := #[.val (.int p1), .val (.int p2), .val (.int p3), .val (.int p4), .val (.int p5), .val (.int p6), .val (.int (2 : Int32)), .val (.int f0), .val (.int f1), .val (.int f2), .val (.ref b51), .val (.ref b52), .val (.int tot), .val (.int (1 : Int32)), .val .null, .unset, .unset]) rfl ?_
        show Steps p.tables e below (T60.setTop (mkF m 144 #[.val (.int p1), .val (.int p2), .val (.int p3), .val (.int p4), .val (.int p5), .val (.int p6), .val (.int (2 : Int32)), .val (.int f0), .val (.int f1), .val (.int f2), .val (.ref b51), .val (.ref b52), .val (.int tot), .val (.int (1 : Int32)), .val .null, .unset, .unset] [])) _
        refine XS.iload X60.here hx rfl (hb hby at_144) rfl ?_
        show Steps p.tables e below (T60.setTop (mkF m 146 #[.val (.int p1), .val (.int p2), .val (.int p3), .val (.int p4), .val (.int p5), .val (.int p6), .val (.int (2 : Int32)), .val (.int f0), .val (.int f1), .val (.int f2), .val (.ref b51), .val (.ref b52), .val (.int tot), .val (.int (1 : Int32)), .val .null, .unset, .unset] [(.int (1 : Int32))])) _
        refine XS.ifNo X60.here hx rfl (hb hby at_146) rfl ((if0 _ _).trans (feq ((by decide) : ¬ ((1 : Int32) = (0 : Int32)))).1) ?_
        show Steps p.tables e below (T60.setTop (mkF m 149 #[.val (.int p1), .val (.int p2), .val (.int p3), .val (.int p4), .val (.int p5), .val (.int p6), .val (.int (2 : Int32)), .val (.int f0), .val (.int f1), .val (.int f2), .val (.ref b51), .val (.ref b52), .val (.int tot), .val (.int (1 : Int32)), .val .null, .unset, .unset] [])) _
        refine XS.iload X60.here hx rfl (hb hby at_149) rfl ?_
        show Steps p.tables e below (T60.setTop (mkF m 151 #[.val (.int p1), .val (.int p2), .val (.int p3), .val (.int p4), .val (.int p5), .val (.int p6), .val (.int (2 : Int32)), .val (.int f0), .val (.int f1), .val (.int f2), .val (.ref b51), .val (.ref b52), .val (.int tot), .val (.int (1 : Int32)), .val .null, .unset, .unset] [(.int tot)])) _
        refine st68 _ ?_
        show Steps p.tables e below (T68.setTop (mkF m 153 #[.val (.int p1), .val (.int p2), .val (.int p3), .val (.int p4), .val (.int p5), .val (.int p6), .val (.int (2 : Int32)), .val (.int f0), .val (.int f1), .val (.int f2), .val (.ref b51), .val (.ref b52), .val (.int tot), .val (.int (1 : Int32)), .val .null, .unset, .unset] [(.ref b68)])) _
        refine XS.astore X68.here hx rfl (hb hby at_153) rfl rfl (l' := #[.val (.int p1), .val (.int p2), .val (.int p3), .val (.int p4), .val (.int p5), .val (.int p6), .val (.int (2 : Int32)), .val (.int f0), .val (.int f1), .val (.int f2), .val (.ref b51), .val (.ref b52), .val (.int tot), .val (.int (1 : Int32)), .val (.ref b68), .unset, .unset]) rfl ?_
        show Steps p.tables e below (T68.setTop (mkF m 155 #[.val (.int p1), .val (.int p2), .val (.int p3), .val (.int p4), .val (.int p5), .val (.int p6), .val (.int (2 : Int32)), .val (.int f0), .val (.int f1), .val (.int f2), .val (.ref b51), .val (.ref b52), .val (.int tot), .val (.int (1 : Int32)), .val (.ref b68), .unset, .unset] [])) _
        refine XS.iload X68.here hx rfl (hb hby at_155) rfl ?_
        show Steps p.tables e below (T68.setTop (mkF m 157 #[.val (.int p1), .val (.int p2), .val (.int p3), .val (.int p4), .val (.int p5), .val (.int p6), .val (.int (2 : Int32)), .val (.int f0), .val (.int f1), .val (.int f2), .val (.ref b51), .val (.ref b52), .val (.int tot), .val (.int (1 : Int32)), .val (.ref b68), .unset, .unset] [(.int tot)])) _
        refine XS.ifNo X68.here hx rfl (hb hby at_157) rfl ((if0 _ _).trans (tlt ((own_tpos htot) : (0 : Int32) < tot)).2.2.2) ?_
        show Steps p.tables e below (T68.setTop (mkF m 160 #[.val (.int p1), .val (.int p2), .val (.int p3), .val (.int p4), .val (.int p5), .val (.int p6), .val (.int (2 : Int32)), .val (.int f0), .val (.int f1), .val (.int f2), .val (.ref b51), .val (.ref b52), .val (.int tot), .val (.int (1 : Int32)), .val (.ref b68), .unset, .unset] [])) _
        refine XS.aload X68.here hx rfl (hb hby at_160) rfl rfl ?_
        show Steps p.tables e below (T68.setTop (mkF m 162 #[.val (.int p1), .val (.int p2), .val (.int p3), .val (.int p4), .val (.int p5), .val (.int p6), .val (.int (2 : Int32)), .val (.int f0), .val (.int f1), .val (.int f2), .val (.ref b51), .val (.ref b52), .val (.int tot), .val (.int (1 : Int32)), .val (.ref b68), .unset, .unset] [(.ref b68)])) _
        refine XS.iconst X68.here hx rfl (hb hby at_162) ?_
        show Steps p.tables e below (T68.setTop (mkF m 163 #[.val (.int p1), .val (.int p2), .val (.int p3), .val (.int p4), .val (.int p5), .val (.int p6), .val (.int (2 : Int32)), .val (.int f0), .val (.int f1), .val (.int f2), .val (.ref b51), .val (.ref b52), .val (.int tot), .val (.int (1 : Int32)), .val (.ref b68), .unset, .unset] [(.int (0 : Int32)), (.ref b68)])) _
        refine XS.iload X68.here hx rfl (hb hby at_163) rfl ?_
        show Steps p.tables e below (T68.setTop (mkF m 165 #[.val (.int p1), .val (.int p2), .val (.int p3), .val (.int p4), .val (.int p5), .val (.int p6), .val (.int (2 : Int32)), .val (.int f0), .val (.int f1), .val (.int f2), .val (.ref b51), .val (.ref b52), .val (.int tot), .val (.int (1 : Int32)), .val (.ref b68), .unset, .unset] [(.int p5), (.int (0 : Int32)), (.ref b68)])) _
        refine st70 _ ?_
        show Steps p.tables e below (T70.setTop (mkF m 166 #[.val (.int p1), .val (.int p2), .val (.int p3), .val (.int p4), .val (.int p5), .val (.int p6), .val (.int (2 : Int32)), .val (.int f0), .val (.int f1), .val (.int f2), .val (.ref b51), .val (.ref b52), .val (.int tot), .val (.int (1 : Int32)), .val (.ref b68), .unset, .unset] [])) _
        refine XS.iload X70.here hx rfl (hb hby at_166) rfl ?_
        show Steps p.tables e below (T70.setTop (mkF m 168 #[.val (.int p1), .val (.int p2), .val (.int p3), .val (.int p4), .val (.int p5), .val (.int p6), .val (.int (2 : Int32)), .val (.int f0), .val (.int f1), .val (.int f2), .val (.ref b51), .val (.ref b52), .val (.int tot), .val (.int (1 : Int32)), .val (.ref b68), .unset, .unset] [(.int tot)])) _
        refine XS.iconst X70.here hx rfl (hb hby at_168) ?_
        exact k)
      by_cases ht1 : (1 : Int32) < tot
      · obtain ⟨cl72, Ar72, q72, S72, M72, H72, G72⟩ := (V_b68_70 : Arh Z h70 b68 k68 .int tot [] [(.int p5)] (.int (0 : Int32)))
        have hin72 : ¬ ((tot - (1 : Int32)) < 0 ∨ cl72.slots.size ≤ ((tot - (1 : Int32))).toNatClampNeg) := inb_of S72 (own_tlast ht1)
        obtain ⟨T73, h73, X73, e73, W73, st73⟩ := stI X70 hx hZ e70 Ar72 (j := (tot - (1 : Int32))) hin72 (g := (mkF m 180 #[.val (.int p1), .val (.int p2), .val (.int p3), .val (.int p4), .val (.int p5), .val (.int p6), .val (.int (2 : Int32)), .val (.int f0), .val (.int f1), .val (.int f2), .val (.ref b51), .val (.ref b52), .val (.int tot), .val (.int (1 : Int32)), .val (.ref b68), .unset, .unset] [(.int p5), (.int (tot - (1 : Int32))), (.ref b68)])) rfl rfl (hb hby at_180)
        have V_b68_73 : Arh Z h73 b68 k68 .int tot [((tot - (1 : Int32)), (.int p5))] [(.int p5)] (.int (0 : Int32)) := Arh.push Ar72 q72 S72 M72 H72 G72 rfl W73 hin72
        have V73_0 := V70_0.other W73 ne_b51_b68
        have V73_1 := V70_1.other W73 ne_b52_b68
        have z73 : n0 ≤ h73.size := by rw [W73.size]; exact z70
        have N73 := Fr.snoc X73 N70 g_b68
        obtain ⟨T74, h74, X74, e74, E74, A74, D74, -, st74⟩ := newO X73 hx hZ hown (hw _ (List.mem_of_getElem? (i := 1) rfl)) (hw _ (List.mem_of_getElem? (i := 2) rfl)) (hw _ (List.mem_of_getElem? (i := 3) rfl)) e73 (g := (mkF m 181 #[.val (.int p1), .val (.int p2), .val (.int p3), .val (.int p4), .val (.int p5), .val (.int p6), .val (.int (2 : Int32)), .val (.int f0), .val (.int f1), .val (.int f2), .val (.ref b51), .val (.ref b52), .val (.int tot), .val (.int (1 : Int32)), .val (.ref b68), .unset, .unset] [])) rfl (hb hby at_181) (by decide) (by decide)
        obtain ⟨b74, g74⟩ : ∃ z, z = h73.size := ⟨_, rfl⟩
        rw [← g74] at A74 D74 st74
        have ne_b51_b74 : b51 ≠ b74 := Nat.ne_of_lt (Nat.lt_of_lt_of_le (V73_0).lt (Nat.le_of_eq g74.symm))
        have ne_b52_b74 : b52 ≠ b74 := Nat.ne_of_lt (Nat.lt_of_lt_of_le (V73_1).lt (Nat.le_of_eq g74.symm))
        have ne_b68_b74 : b68 ≠ b74 := Nat.ne_of_lt (Nat.lt_of_lt_of_le (V_b68_73).lt (Nat.le_of_eq g74.symm))
        have g_b74 : n0 ≤ b74 := Nat.le_trans z73 (Nat.le_of_eq g74.symm)
        have V74_0 := V73_0.ext E74
        have V74_1 := V73_1.ext E74
        have V74_2 := V_b68_73.ext E74
        have z74 : n0 ≤ h74.size := Nat.le_trans z73 E74.1
        have F_documents_b74 : Fld Z h74 b74 "com/example/cranfield/cranfield/index/Postings" "documents" "[I" .null := D74 (Or.inr (hw _ (List.mem_of_getElem? (i := 11) rfl))) (ty := (.array .int)) (by decide)
        have F_frequencies_b74 : Fld Z h74 b74 "com/example/cranfield/cranfield/index/Postings" "frequencies" "[I" .null := D74 (Or.inr (hw _ (List.mem_of_getElem? (i := 13) rfl))) (ty := (.array .int)) (by decide)
        have F_positions_b74 : Fld Z h74 b74 "com/example/cranfield/cranfield/index/Postings" "positions" "[I" .null := D74 (Or.inr (hw _ (List.mem_of_getElem? (i := 15) rfl))) (ty := (.array .int)) (by decide)
        have F_firstPositions_b74 : Fld Z h74 b74 "com/example/cranfield/cranfield/index/Postings" "firstPositions" "[I" .null := D74 (Or.inr (hw _ (List.mem_of_getElem? (i := 17) rfl))) (ty := (.array .int)) (by decide)
        obtain ⟨_, _, ⟨T75, L75, k75, n75⟩, -, X75, ⟨Lc75, hQ75, l75, y75, z75⟩, st75⟩ := X74.specialBack hx (y := (⟨"com/example/cranfield/cranfield/index/Postings", "<init>", "([I[I[I)V"⟩ : MethodName)) rfl hown (mvT hZ (hw _ (List.mem_of_getElem? (i := 4) rfl))) (mvT hZ (hw _ (List.mem_of_getElem? (i := 5) rfl))) (mvT hZ (hw _ (List.mem_of_getElem? (i := 6) rfl))) (by decide) (backOf (W := 1) (rmI2 l Z a0 hw [] b74 b51 b52 b68 k51 k52 f0 f1 h74 n0 z74 A74 g_b74 F_documents_b74 F_frequencies_b74 F_positions_b74 F_firstPositions_b74 V74_0 V74_1 (Ne.symm ne_b51_b74) (Ne.symm ne_b52_b74)) hZ (hw _ (List.mem_of_getElem? (i := 6) rfl)) (hw _ (List.mem_of_getElem? (i := 3) rfl)) (by decide) (by decide)) (g := (mkF m 191 #[.val (.int p1), .val (.int p2), .val (.int p3), .val (.int p4), .val (.int p5), .val (.int p6), .val (.int (2 : Int32)), .val (.int f0), .val (.int f1), .val (.int f2), .val (.ref b51), .val (.ref b52), .val (.int tot), .val (.int (1 : Int32)), .val (.ref b68), .unset, .unset] [(.ref b68), (.ref b52), (.ref b51), (.ref b74), (.ref b74)])) rfl (by rw [hml]; rfl) (Steps.refl _) (a := b74) (argsL := [(.ref b51), (.ref b52), (.ref b68)]) (rest := [(.ref b74)]) (lenOf own_pd0 rfl) rfl (by show 2 * 0 + _ ≤ _; exact Nat.le_of_eq rfl) (hb hby at_191) (fun _ _ => ⟨rfl, e74, (by decide : 4 + 1 ≤ _), (by decide : 20 + 2 ≤ _)⟩)
        dsimp only [Pt.U, Pt.locs, Pt.cells, Pt.slots] at X75 l75 y75 z75 st75 hQ75
        subst l75 y75 z75
        obtain ⟨h75, e75⟩ : ∃ z, T75.heap = z := ⟨_, rfl⟩
        rw [e75] at hQ75
        obtain ⟨rfl, N75q, Kc75, fp75⟩ := hQ75
        have N75 := Fr.app N73 N75q
        have X75_1203 := A74.keep Kc75
        have V75_1204 := V74_0.keep Kc75 (ninS ne_b51_b74 nin0)
        have V75_1205 := V74_1.keep Kc75 (ninS ne_b52_b74 nin0)
        have V75_1206 := V74_2.keep Kc75 (ninS ne_b68_b74 nin0)
        have z75 : n0 ≤ h75.size := Nat.le_trans z74 Kc75.1
        obtain ⟨cq76, kq76, q76a, q76b, q76c⟩ := isOf hZ e75 X75_1203
        obtain ⟨_, _, ⟨T76, L76, k76, n76⟩, -, X76, ⟨Lc76, hQ76, l76, y76, z76⟩, st76⟩ := X75.virtualBack hx (y := (⟨"com/example/cranfield/cranfield/index/Postings", "positionCount", "()I"⟩ : MethodName)) (z := (⟨"com/example/cranfield/cranfield/index/Postings", "positionCount", "()I"⟩ : MethodName)) hown (mvT hZ (hw _ (List.mem_of_getElem? (i := 18) rfl))) (mvT hZ (hw _ (List.mem_of_getElem? (i := 19) rfl))) (notFace_of_selects (args := #[]) (mvT hZ (hw _ (List.mem_of_getElem? (i := 21) rfl)))) (mvT hZ (hw _ (List.mem_of_getElem? (i := 21) rfl))) (mvT hZ (hw _ (List.mem_of_getElem? (i := 20) rfl))) (by decide) (backOf (W := 0) (rmPr l Z a0 hw [] b74 b68 k68 tot [((tot - (1 : Int32)), (.int p5))] [(.int p5)] (.int (0 : Int32)) h75 n0 z75 fp75 V75_1206) hZ (hw _ (List.mem_of_getElem? (i := 22) rfl)) (hw _ (List.mem_of_getElem? (i := 3) rfl)) (by decide) (by decide)) q76a q76c (g := (mkF m 198 #[.val (.int p1), .val (.int p2), .val (.int p3), .val (.int p4), .val (.int p5), .val (.int p6), .val (.int (2 : Int32)), .val (.int f0), .val (.int f1), .val (.int f2), .val (.ref b51), .val (.ref b52), .val (.int tot), .val (.int (1 : Int32)), .val (.ref b68), .val (.ref b74), .unset] [(.ref b74)])) rfl (by rw [hml]; rfl) (Steps.refl _) (argsL := []) (rest := []) (lenOf own_pd1 rfl) rfl (by show 2 * 0 + _ ≤ _; exact Nat.le_of_eq rfl) (hb hby at_198) (fun _ _ => ⟨rfl, e75, (by decide : 5 + 0 ≤ _), (by decide : 22 + 0 ≤ _)⟩)
        dsimp only [Pt.U, Pt.locs, Pt.cells, Pt.slots] at X76 l76 y76 z76 st76 hQ76
        subst l76 y76 z76
        obtain ⟨rfl, N76q, e76⟩ := hQ76
        have N76 := Fr.app N75 N76q
        obtain ⟨cq77, kq77, q77a, q77b, q77c⟩ := isOf hZ e76 X75_1203
        obtain ⟨_, _, ⟨T77, L77, k77, n77⟩, -, X77, ⟨Lc77, hQ77, l77, y77, z77⟩, st77⟩ := X76.virtualBack hx (y := (⟨"com/example/cranfield/cranfield/index/Postings", "hasPositions", "()Z"⟩ : MethodName)) (z := (⟨"com/example/cranfield/cranfield/index/Postings", "hasPositions", "()Z"⟩ : MethodName)) hown (mvT hZ (hw _ (List.mem_of_getElem? (i := 23) rfl))) (mvT hZ (hw _ (List.mem_of_getElem? (i := 24) rfl))) (notFace_of_selects (args := #[]) (mvT hZ (hw _ (List.mem_of_getElem? (i := 26) rfl)))) (mvT hZ (hw _ (List.mem_of_getElem? (i := 26) rfl))) (mvT hZ (hw _ (List.mem_of_getElem? (i := 25) rfl))) (by decide) (backOf (W := 0) (rmHr l Z a0 hw [] b74 b68 h75 n0 z75 fp75) hZ (hw _ (List.mem_of_getElem? (i := 27) rfl)) (hw _ (List.mem_of_getElem? (i := 3) rfl)) (by decide) (by decide)) q77a q77c (g := (mkF m 205 #[.val (.int p1), .val (.int p2), .val (.int p3), .val (.int p4), .val (.int p5), .val (.int p6), .val (.int (2 : Int32)), .val (.int f0), .val (.int f1), .val (.int f2), .val (.ref b51), .val (.ref b52), .val (.int tot), .val (.int (1 : Int32)), .val (.ref b68), .val (.ref b74), .val (.int tot)] [(.ref b74)])) rfl (by rw [hml]; rfl) (Steps.refl _) (argsL := []) (rest := []) (lenOf own_pd2 rfl) rfl (by show 2 * 0 + _ ≤ _; exact Nat.le_of_eq rfl) (hb hby at_205) (fun _ _ => ⟨rfl, e76, (by decide : 5 + 0 ≤ _), (by decide : 22 + 0 ≤ _)⟩)
        dsimp only [Pt.U, Pt.locs, Pt.cells, Pt.slots] at X77 l77 y77 z77 st77 hQ77
        subst l77 y77 z77
        obtain ⟨rfl, N77q, e77⟩ := hQ77
        have N77 := Fr.app N76 N77q
        have pre78 : ∀ t, Steps p.tables e below (T77.setTop (mkF m 232 #[.val (.int p1), .val (.int p2), .val (.int p3), .val (.int p4), .val (.int p5), .val (.int p6), .val (.int (2 : Int32)), .val (.int f0), .val (.int f1), .val (.int f2), .val (.ref b51), .val (.ref b52), .val (.int tot), .val (.int (1 : Int32)), .val (.ref b68), .val (.ref b74), .val (.int tot)] [(.int (1 : Int32))])) t → Steps p.tables e below (s₁.setTop (entryFrame m #[(.int p1), (.int p2), (.int p3), (.int p4), (.int p5), (.int p6)] maxLocals)) t := fun t k => pre71 t (by
          show Steps p.tables e below (T70.setTop (mkF m 169 #[.val (.int p1), .val (.int p2), .val (.int p3), .val (.int p4), .val (.int p5), .val (.int p6), .val (.int (2 : Int32)), .val (.int f0), .val (.int f1), .val (.int f2), .val (.ref b51), .val (.ref b52), .val (.int tot), .val (.int (1 : Int32)), .val (.ref b68), .unset, .unset] [(.int (1 : Int32)), (.int tot)])) _
          refine XS.icmpNo X70.here hx rfl (hb hby at_169) rfl (tlt (ht1 : (1 : Int32) < tot)).2.2.2 ?_
          show Steps p.tables e below (T70.setTop (mkF m 172 #[.val (.int p1), .val (.int p2), .val (.int p3), .val (.int p4), .val (.int p5), .val (.int p6), .val (.int (2 : Int32)), .val (.int f0), .val (.int f1), .val (.int f2), .val (.ref b51), .val (.ref b52), .val (.int tot), .val (.int (1 : Int32)), .val (.ref b68), .unset, .unset] [])) _
          refine XS.aload X70.here hx rfl (hb hby at_172) rfl rfl ?_
          show Steps p.tables e below (T70.setTop (mkF m 174 #[.val (.int p1), .val (.int p2), .val (.int p3), .val (.int p4), .val (.int p5), .val (.int p6), .val (.int (2 : Int32)), .val (.int f0), .val (.int f1), .val (.int f2), .val (.ref b51), .val (.ref b52), .val (.int tot), .val (.int (1 : Int32)), .val (.ref b68), .unset, .unset] [(.ref b68)])) _
          refine XS.iload X70.here hx rfl (hb hby at_174) rfl ?_
          show Steps p.tables e below (T70.setTop (mkF m 176 #[.val (.int p1), .val (.int p2), .val (.int p3), .val (.int p4), .val (.int p5), .val (.int p6), .val (.int (2 : Int32)), .val (.int f0), .val (.int f1), .val (.int f2), .val (.ref b51), .val (.ref b52), .val (.int tot), .val (.int (1 : Int32)), .val (.ref b68), .unset, .unset] [(.int tot), (.ref b68)])) _
          refine XS.iconst X70.here hx rfl (hb hby at_176) ?_
          show Steps p.tables e below (T70.setTop (mkF m 177 #[.val (.int p1), .val (.int p2), .val (.int p3), .val (.int p4), .val (.int p5), .val (.int p6), .val (.int (2 : Int32)), .val (.int f0), .val (.int f1), .val (.int f2), .val (.ref b51), .val (.ref b52), .val (.int tot), .val (.int (1 : Int32)), .val (.ref b68), .unset, .unset] [(.int (1 : Int32)), (.int tot), (.ref b68)])) _
          refine XS.isub X70.here hx rfl (hb hby at_177) rfl ?_
          show Steps p.tables e below (T70.setTop (mkF m 178 #[.val (.int p1), .val (.int p2), .val (.int p3), .val (.int p4), .val (.int p5), .val (.int p6), .val (.int (2 : Int32)), .val (.int f0), .val (.int f1), .val (.int f2), .val (.ref b51), .val (.ref b52), .val (.int tot), .val (.int (1 : Int32)), .val (.ref b68), .unset, .unset] [(.int (tot - (1 : Int32))), (.ref b68)])) _
          refine XS.iload X70.here hx rfl (hb hby at_178) rfl ?_
          show Steps p.tables e below (T70.setTop (mkF m 180 #[.val (.int p1), .val (.int p2), .val (.int p3), .val (.int p4), .val (.int p5), .val (.int p6), .val (.int (2 : Int32)), .val (.int f0), .val (.int f1), .val (.int f2), .val (.ref b51), .val (.ref b52), .val (.int tot), .val (.int (1 : Int32)), .val (.ref b68), .unset, .unset] [(.int p5), (.int (tot - (1 : Int32))), (.ref b68)])) _
          refine st73 _ ?_
          show Steps p.tables e below (T73.setTop (mkF m 181 #[.val (.int p1), .val (.int p2), .val (.int p3), .val (.int p4), .val (.int p5), .val (.int p6), .val (.int (2 : Int32)), .val (.int f0), .val (.int f1), .val (.int f2), .val (.ref b51), .val (.ref b52), .val (.int tot), .val (.int (1 : Int32)), .val (.ref b68), .unset, .unset] [])) _
          refine st74 _ ?_
          show Steps p.tables e below (T74.setTop (mkF m 184 #[.val (.int p1), .val (.int p2), .val (.int p3), .val (.int p4), .val (.int p5), .val (.int p6), .val (.int (2 : Int32)), .val (.int f0), .val (.int f1), .val (.int f2), .val (.ref b51), .val (.ref b52), .val (.int tot), .val (.int (1 : Int32)), .val (.ref b68), .unset, .unset] [(.ref b74)])) _
          refine XS.dup X74.here hx rfl (hb hby at_184) rfl rfl ?_
          show Steps p.tables e below (T74.setTop (mkF m 185 #[.val (.int p1), .val (.int p2), .val (.int p3), .val (.int p4), .val (.int p5), .val (.int p6), .val (.int (2 : Int32)), .val (.int f0), .val (.int f1), .val (.int f2), .val (.ref b51), .val (.ref b52), .val (.int tot), .val (.int (1 : Int32)), .val (.ref b68), .unset, .unset] [(.ref b74), (.ref b74)])) _
          refine XS.aload X74.here hx rfl (hb hby at_185) rfl rfl ?_
          show Steps p.tables e below (T74.setTop (mkF m 187 #[.val (.int p1), .val (.int p2), .val (.int p3), .val (.int p4), .val (.int p5), .val (.int p6), .val (.int (2 : Int32)), .val (.int f0), .val (.int f1), .val (.int f2), .val (.ref b51), .val (.ref b52), .val (.int tot), .val (.int (1 : Int32)), .val (.ref b68), .unset, .unset] [(.ref b51), (.ref b74), (.ref b74)])) _
          refine XS.aload X74.here hx rfl (hb hby at_187) rfl rfl ?_
          show Steps p.tables e below (T74.setTop (mkF m 189 #[.val (.int p1), .val (.int p2), .val (.int p3), .val (.int p4), .val (.int p5), .val (.int p6), .val (.int (2 : Int32)), .val (.int f0), .val (.int f1), .val (.int f2), .val (.ref b51), .val (.ref b52), .val (.int tot), .val (.int (1 : Int32)), .val (.ref b68), .unset, .unset] [(.ref b52), (.ref b51), (.ref b74), (.ref b74)])) _
          refine XS.aload X74.here hx rfl (hb hby at_189) rfl rfl ?_
          show Steps p.tables e below (T74.setTop (mkF m 191 #[.val (.int p1), .val (.int p2), .val (.int p3), .val (.int p4), .val (.int p5), .val (.int p6), .val (.int (2 : Int32)), .val (.int f0), .val (.int f1), .val (.int f2), .val (.ref b51), .val (.ref b52), .val (.int tot), .val (.int (1 : Int32)), .val (.ref b68), .unset, .unset] [(.ref b68), (.ref b52), (.ref b51), (.ref b74), (.ref b74)])) _
          refine st75.trans ?_
          show Steps p.tables e below (T75.setTop (mkF m 194 #[.val (.int p1), .val (.int p2), .val (.int p3), .val (.int p4), .val (.int p5), .val (.int p6), .val (.int (2 : Int32)), .val (.int f0), .val (.int f1), .val (.int f2), .val (.ref b51), .val (.ref b52), .val (.int tot), .val (.int (1 : Int32)), .val (.ref b68), .unset, .unset] [(.ref b74)])) _
          refine XS.astore X75.here hx rfl (hb hby at_194) rfl rfl (l' := #[.val (.int p1), .val (.int p2), .val (.int p3), .val (.int p4), .val (.int p5), .val (.int p6), .val (.int (2 : Int32)), .val (.int f0), .val (.int f1), .val (.int f2), .val (.ref b51), .val (.ref b52), .val (.int tot), .val (.int (1 : Int32)), .val (.ref b68), .val (.ref b74), .unset]) rfl ?_
          show Steps p.tables e below (T75.setTop (mkF m 196 #[.val (.int p1), .val (.int p2), .val (.int p3), .val (.int p4), .val (.int p5), .val (.int p6), .val (.int (2 : Int32)), .val (.int f0), .val (.int f1), .val (.int f2), .val (.ref b51), .val (.ref b52), .val (.int tot), .val (.int (1 : Int32)), .val (.ref b68), .val (.ref b74), .unset] [])) _
          refine XS.aload X75.here hx rfl (hb hby at_196) rfl rfl ?_
          show Steps p.tables e below (T75.setTop (mkF m 198 #[.val (.int p1), .val (.int p2), .val (.int p3), .val (.int p4), .val (.int p5), .val (.int p6), .val (.int (2 : Int32)), .val (.int f0), .val (.int f1), .val (.int f2), .val (.ref b51), .val (.ref b52), .val (.int tot), .val (.int (1 : Int32)), .val (.ref b68), .val (.ref b74), .unset] [(.ref b74)])) _
          refine st76.trans ?_
          show Steps p.tables e below (T76.setTop (mkF m 201 #[.val (.int p1), .val (.int p2), .val (.int p3), .val (.int p4), .val (.int p5), .val (.int p6), .val (.int (2 : Int32)), .val (.int f0), .val (.int f1), .val (.int f2), .val (.ref b51), .val (.ref b52), .val (.int tot), .val (.int (1 : Int32)), .val (.ref b68), .val (.ref b74), .unset] [(.int tot)])) _
          refine XS.istore X76.here hx rfl (hb hby at_201) rfl (l' := #[.val (.int p1), .val (.int p2), .val (.int p3), .val (.int p4), .val (.int p5), .val (.int p6), .val (.int (2 : Int32)), .val (.int f0), .val (.int f1), .val (.int f2), .val (.ref b51), .val (.ref b52), .val (.int tot), .val (.int (1 : Int32)), .val (.ref b68), .val (.ref b74), .val (.int tot)]) rfl ?_
          show Steps p.tables e below (T76.setTop (mkF m 203 #[.val (.int p1), .val (.int p2), .val (.int p3), .val (.int p4), .val (.int p5), .val (.int p6), .val (.int (2 : Int32)), .val (.int f0), .val (.int f1), .val (.int f2), .val (.ref b51), .val (.ref b52), .val (.int tot), .val (.int (1 : Int32)), .val (.ref b68), .val (.ref b74), .val (.int tot)] [])) _
          refine XS.aload X76.here hx rfl (hb hby at_203) rfl rfl ?_
          show Steps p.tables e below (T76.setTop (mkF m 205 #[.val (.int p1), .val (.int p2), .val (.int p3), .val (.int p4), .val (.int p5), .val (.int p6), .val (.int (2 : Int32)), .val (.int f0), .val (.int f1), .val (.int f2), .val (.ref b51), .val (.ref b52), .val (.int tot), .val (.int (1 : Int32)), .val (.ref b68), .val (.ref b74), .val (.int tot)] [(.ref b74)])) _
          refine st77.trans ?_
          show Steps p.tables e below (T77.setTop (mkF m 208 #[.val (.int p1), .val (.int p2), .val (.int p3), .val (.int p4), .val (.int p5), .val (.int p6), .val (.int (2 : Int32)), .val (.int f0), .val (.int f1), .val (.int f2), .val (.ref b51), .val (.ref b52), .val (.int tot), .val (.int (1 : Int32)), .val (.ref b68), .val (.ref b74), .val (.int tot)] [(.int (1 : Int32))])) _
          refine XS.iload X77.here hx rfl (hb hby at_208) rfl ?_
          show Steps p.tables e below (T77.setTop (mkF m 210 #[.val (.int p1), .val (.int p2), .val (.int p3), .val (.int p4), .val (.int p5), .val (.int p6), .val (.int (2 : Int32)), .val (.int f0), .val (.int f1), .val (.int f2), .val (.ref b51), .val (.ref b52), .val (.int tot), .val (.int (1 : Int32)), .val (.ref b68), .val (.ref b74), .val (.int tot)] [(.int (1 : Int32)), (.int (1 : Int32))])) _
          refine XS.icmpYes X77.here hx rfl (pc0 := 210) (pc' := 215) rfl (hb hby at_210) rfl (teq ((by decide) : (1 : Int32) = (1 : Int32))).1 (by decide) (by decide) ?_
          show Steps p.tables e below (T77.setTop (mkF m 215 #[.val (.int p1), .val (.int p2), .val (.int p3), .val (.int p4), .val (.int p5), .val (.int p6), .val (.int (2 : Int32)), .val (.int f0), .val (.int f1), .val (.int f2), .val (.ref b51), .val (.ref b52), .val (.int tot), .val (.int (1 : Int32)), .val (.ref b68), .val (.ref b74), .val (.int tot)] [])) _
          refine XS.iload X77.here hx rfl (hb hby at_215) rfl ?_
          show Steps p.tables e below (T77.setTop (mkF m 217 #[.val (.int p1), .val (.int p2), .val (.int p3), .val (.int p4), .val (.int p5), .val (.int p6), .val (.int (2 : Int32)), .val (.int f0), .val (.int f1), .val (.int f2), .val (.ref b51), .val (.ref b52), .val (.int tot), .val (.int (1 : Int32)), .val (.ref b68), .val (.ref b74), .val (.int tot)] [(.int (1 : Int32))])) _
          refine XS.ifNo X77.here hx rfl (hb hby at_217) rfl ((if0 _ _).trans (feq ((by decide) : ¬ ((1 : Int32) = (0 : Int32)))).1) ?_
          show Steps p.tables e below (T77.setTop (mkF m 220 #[.val (.int p1), .val (.int p2), .val (.int p3), .val (.int p4), .val (.int p5), .val (.int p6), .val (.int (2 : Int32)), .val (.int f0), .val (.int f1), .val (.int f2), .val (.ref b51), .val (.ref b52), .val (.int tot), .val (.int (1 : Int32)), .val (.ref b68), .val (.ref b74), .val (.int tot)] [])) _
          refine XS.iload X77.here hx rfl (hb hby at_220) rfl ?_
          show Steps p.tables e below (T77.setTop (mkF m 222 #[.val (.int p1), .val (.int p2), .val (.int p3), .val (.int p4), .val (.int p5), .val (.int p6), .val (.int (2 : Int32)), .val (.int f0), .val (.int f1), .val (.int f2), .val (.ref b51), .val (.ref b52), .val (.int tot), .val (.int (1 : Int32)), .val (.ref b68), .val (.ref b74), .val (.int tot)] [(.int tot)])) _
          refine XS.iload X77.here hx rfl (hb hby at_222) rfl ?_
          show Steps p.tables e below (T77.setTop (mkF m 224 #[.val (.int p1), .val (.int p2), .val (.int p3), .val (.int p4), .val (.int p5), .val (.int p6), .val (.int (2 : Int32)), .val (.int f0), .val (.int f1), .val (.int f2), .val (.ref b51), .val (.ref b52), .val (.int tot), .val (.int (1 : Int32)), .val (.ref b68), .val (.ref b74), .val (.int tot)] [(.int tot), (.int tot)])) _
          refine XS.icmpNo X77.here hx rfl (hb hby at_224) rfl (teq (rfl : tot = tot)).2 ?_
          show Steps p.tables e below (T77.setTop (mkF m 227 #[.val (.int p1), .val (.int p2), .val (.int p3), .val (.int p4), .val (.int p5), .val (.int p6), .val (.int (2 : Int32)), .val (.int f0), .val (.int f1), .val (.int f2), .val (.ref b51), .val (.ref b52), .val (.int tot), .val (.int (1 : Int32)), .val (.ref b68), .val (.ref b74), .val (.int tot)] [])) _
          refine XS.iconst X77.here hx rfl (hb hby at_227) ?_
          show Steps p.tables e below (T77.setTop (mkF m 228 #[.val (.int p1), .val (.int p2), .val (.int p3), .val (.int p4), .val (.int p5), .val (.int p6), .val (.int (2 : Int32)), .val (.int f0), .val (.int f1), .val (.int f2), .val (.ref b51), .val (.ref b52), .val (.int tot), .val (.int (1 : Int32)), .val (.ref b68), .val (.ref b74), .val (.int tot)] [(.int (1 : Int32))])) _
          refine XS.goto X77.here hx rfl (pc0 := 228) (pc' := 232) rfl (hb hby at_228) (by decide) (by decide) ?_
          exact k)
        obtain ⟨fs, hr, hrun, hended, hW, hsame⟩ := X77.leave (v := some (.int (nar .boolean (1 : Int32)))) (fun h => by rw [Bd.returns] at h; cases h)
        refine ⟨_, _, pre78 _ ?_, hrun, hended, _, _, rfl, ?_, ⟨_, rfl⟩, hW, hsame.mono (by decide) (by decide)⟩
        · show Steps p.tables e below (T77.setTop (mkF m 232 #[.val (.int p1), .val (.int p2), .val (.int p3), .val (.int p4), .val (.int p5), .val (.int p6), .val (.int (2 : Int32)), .val (.int f0), .val (.int f1), .val (.int f2), .val (.ref b51), .val (.ref b52), .val (.int tot), .val (.int (1 : Int32)), .val (.ref b68), .val (.ref b74), .val (.int tot)] [(.int (1 : Int32))])) _
          exact retN X77 hx (t := .boolean) Bd.returns (by simp) (hb hby at_232) hr
        · show QL n0 _ T77.heap _
          rw [e77]
          exact ⟨rfl, N77⟩
      · obtain ⟨T79, h79, X79, e79, E79, A79, D79, -, st79⟩ := newO X70 hx hZ hown (hw _ (List.mem_of_getElem? (i := 1) rfl)) (hw _ (List.mem_of_getElem? (i := 2) rfl)) (hw _ (List.mem_of_getElem? (i := 3) rfl)) e70 (g := (mkF m 181 #[.val (.int p1), .val (.int p2), .val (.int p3), .val (.int p4), .val (.int p5), .val (.int p6), .val (.int (2 : Int32)), .val (.int f0), .val (.int f1), .val (.int f2), .val (.ref b51), .val (.ref b52), .val (.int tot), .val (.int (1 : Int32)), .val (.ref b68), .unset, .unset] [])) rfl (hb hby at_181) (by decide) (by decide)
        obtain ⟨b79, g79⟩ : ∃ z, z = h70.size := ⟨_, rfl⟩
        rw [← g79] at A79 D79 st79
        have ne_b51_b79 : b51 ≠ b79 := Nat.ne_of_lt (Nat.lt_of_lt_of_le (V70_0).lt (Nat.le_of_eq g79.symm))
        have ne_b52_b79 : b52 ≠ b79 := Nat.ne_of_lt (Nat.lt_of_lt_of_le (V70_1).lt (Nat.le_of_eq g79.symm))
        have ne_b68_b79 : b68 ≠ b79 := Nat.ne_of_lt (Nat.lt_of_lt_of_le (V_b68_70).lt (Nat.le_of_eq g79.symm))
        have g_b79 : n0 ≤ b79 := Nat.le_trans z70 (Nat.le_of_eq g79.symm)
        have V79_0 := V70_0.ext E79
        have V79_1 := V70_1.ext E79
        have V79_2 := V_b68_70.ext E79
        have z79 : n0 ≤ h79.size := Nat.le_trans z70 E79.1
        have F_documents_b79 : Fld Z h79 b79 "com/example/cranfield/cranfield/index/Postings" "documents" "[I" .null := D79 (Or.inr (hw _ (List.mem_of_getElem? (i := 11) rfl))) (ty := (.array .int)) (by decide)
        have F_frequencies_b79 : Fld Z h79 b79 "com/example/cranfield/cranfield/index/Postings" "frequencies" "[I" .null := D79 (Or.inr (hw _ (List.mem_of_getElem? (i := 13) rfl))) (ty := (.array .int)) (by decide)
        have F_positions_b79 : Fld Z h79 b79 "com/example/cranfield/cranfield/index/Postings" "positions" "[I" .null := D79 (Or.inr (hw _ (List.mem_of_getElem? (i := 15) rfl))) (ty := (.array .int)) (by decide)
        have F_firstPositions_b79 : Fld Z h79 b79 "com/example/cranfield/cranfield/index/Postings" "firstPositions" "[I" .null := D79 (Or.inr (hw _ (List.mem_of_getElem? (i := 17) rfl))) (ty := (.array .int)) (by decide)
        obtain ⟨_, _, ⟨T80, L80, k80, n80⟩, -, X80, ⟨Lc80, hQ80, l80, y80, z80⟩, st80⟩ := X79.specialBack hx (y := (⟨"com/example/cranfield/cranfield/index/Postings", "<init>", "([I[I[I)V"⟩ : MethodName)) rfl hown (mvT hZ (hw _ (List.mem_of_getElem? (i := 4) rfl))) (mvT hZ (hw _ (List.mem_of_getElem? (i := 5) rfl))) (mvT hZ (hw _ (List.mem_of_getElem? (i := 6) rfl))) (by decide) (backOf (W := 1) (rmI2 l Z a0 hw [] b79 b51 b52 b68 k51 k52 f0 f1 h79 n0 z79 A79 g_b79 F_documents_b79 F_frequencies_b79 F_positions_b79 F_firstPositions_b79 V79_0 V79_1 (Ne.symm ne_b51_b79) (Ne.symm ne_b52_b79)) hZ (hw _ (List.mem_of_getElem? (i := 6) rfl)) (hw _ (List.mem_of_getElem? (i := 3) rfl)) (by decide) (by decide)) (g := (mkF m 191 #[.val (.int p1), .val (.int p2), .val (.int p3), .val (.int p4), .val (.int p5), .val (.int p6), .val (.int (2 : Int32)), .val (.int f0), .val (.int f1), .val (.int f2), .val (.ref b51), .val (.ref b52), .val (.int tot), .val (.int (1 : Int32)), .val (.ref b68), .unset, .unset] [(.ref b68), (.ref b52), (.ref b51), (.ref b79), (.ref b79)])) rfl (by rw [hml]; rfl) (Steps.refl _) (a := b79) (argsL := [(.ref b51), (.ref b52), (.ref b68)]) (rest := [(.ref b79)]) (lenOf own_pd0 rfl) rfl (by show 2 * 0 + _ ≤ _; exact Nat.le_of_eq rfl) (hb hby at_191) (fun _ _ => ⟨rfl, e79, (by decide : 4 + 1 ≤ _), (by decide : 20 + 2 ≤ _)⟩)
        dsimp only [Pt.U, Pt.locs, Pt.cells, Pt.slots] at X80 l80 y80 z80 st80 hQ80
        subst l80 y80 z80
        obtain ⟨h80, e80⟩ : ∃ z, T80.heap = z := ⟨_, rfl⟩
        rw [e80] at hQ80
        obtain ⟨rfl, N80q, Kc80, fp80⟩ := hQ80
        have N80 := Fr.app N70 N80q
        have X80_1307 := A79.keep Kc80
        have V80_1308 := V79_0.keep Kc80 (ninS ne_b51_b79 nin0)
        have V80_1309 := V79_1.keep Kc80 (ninS ne_b52_b79 nin0)
        have V80_1310 := V79_2.keep Kc80 (ninS ne_b68_b79 nin0)
        have z80 : n0 ≤ h80.size := Nat.le_trans z79 Kc80.1
        obtain ⟨cq81, kq81, q81a, q81b, q81c⟩ := isOf hZ e80 X80_1307
        obtain ⟨_, _, ⟨T81, L81, k81, n81⟩, -, X81, ⟨Lc81, hQ81, l81, y81, z81⟩, st81⟩ := X80.virtualBack hx (y := (⟨"com/example/cranfield/cranfield/index/Postings", "positionCount", "()I"⟩ : MethodName)) (z := (⟨"com/example/cranfield/cranfield/index/Postings", "positionCount", "()I"⟩ : MethodName)) hown (mvT hZ (hw _ (List.mem_of_getElem? (i := 18) rfl))) (mvT hZ (hw _ (List.mem_of_getElem? (i := 19) rfl))) (notFace_of_selects (args := #[]) (mvT hZ (hw _ (List.mem_of_getElem? (i := 21) rfl)))) (mvT hZ (hw _ (List.mem_of_getElem? (i := 21) rfl))) (mvT hZ (hw _ (List.mem_of_getElem? (i := 20) rfl))) (by decide) (backOf (W := 0) (rmPr l Z a0 hw [] b79 b68 k68 tot [] [(.int p5)] (.int (0 : Int32)) h80 n0 z80 fp80 V80_1310) hZ (hw _ (List.mem_of_getElem? (i := 22) rfl)) (hw _ (List.mem_of_getElem? (i := 3) rfl)) (by decide) (by decide)) q81a q81c (g := (mkF m 198 #[.val (.int p1), .val (.int p2), .val (.int p3), .val (.int p4), .val (.int p5), .val (.int p6), .val (.int (2 : Int32)), .val (.int f0), .val (.int f1), .val (.int f2), .val (.ref b51), .val (.ref b52), .val (.int tot), .val (.int (1 : Int32)), .val (.ref b68), .val (.ref b79), .unset] [(.ref b79)])) rfl (by rw [hml]; rfl) (Steps.refl _) (argsL := []) (rest := []) (lenOf own_pd1 rfl) rfl (by show 2 * 0 + _ ≤ _; exact Nat.le_of_eq rfl) (hb hby at_198) (fun _ _ => ⟨rfl, e80, (by decide : 5 + 0 ≤ _), (by decide : 22 + 0 ≤ _)⟩)
        dsimp only [Pt.U, Pt.locs, Pt.cells, Pt.slots] at X81 l81 y81 z81 st81 hQ81
        subst l81 y81 z81
        obtain ⟨rfl, N81q, e81⟩ := hQ81
        have N81 := Fr.app N80 N81q
        obtain ⟨cq82, kq82, q82a, q82b, q82c⟩ := isOf hZ e81 X80_1307
        obtain ⟨_, _, ⟨T82, L82, k82, n82⟩, -, X82, ⟨Lc82, hQ82, l82, y82, z82⟩, st82⟩ := X81.virtualBack hx (y := (⟨"com/example/cranfield/cranfield/index/Postings", "hasPositions", "()Z"⟩ : MethodName)) (z := (⟨"com/example/cranfield/cranfield/index/Postings", "hasPositions", "()Z"⟩ : MethodName)) hown (mvT hZ (hw _ (List.mem_of_getElem? (i := 23) rfl))) (mvT hZ (hw _ (List.mem_of_getElem? (i := 24) rfl))) (notFace_of_selects (args := #[]) (mvT hZ (hw _ (List.mem_of_getElem? (i := 26) rfl)))) (mvT hZ (hw _ (List.mem_of_getElem? (i := 26) rfl))) (mvT hZ (hw _ (List.mem_of_getElem? (i := 25) rfl))) (by decide) (backOf (W := 0) (rmHr l Z a0 hw [] b79 b68 h80 n0 z80 fp80) hZ (hw _ (List.mem_of_getElem? (i := 27) rfl)) (hw _ (List.mem_of_getElem? (i := 3) rfl)) (by decide) (by decide)) q82a q82c (g := (mkF m 205 #[.val (.int p1), .val (.int p2), .val (.int p3), .val (.int p4), .val (.int p5), .val (.int p6), .val (.int (2 : Int32)), .val (.int f0), .val (.int f1), .val (.int f2), .val (.ref b51), .val (.ref b52), .val (.int tot), .val (.int (1 : Int32)), .val (.ref b68), .val (.ref b79), .val (.int tot)] [(.ref b79)])) rfl (by rw [hml]; rfl) (Steps.refl _) (argsL := []) (rest := []) (lenOf own_pd2 rfl) rfl (by show 2 * 0 + _ ≤ _; exact Nat.le_of_eq rfl) (hb hby at_205) (fun _ _ => ⟨rfl, e81, (by decide : 5 + 0 ≤ _), (by decide : 22 + 0 ≤ _)⟩)
        dsimp only [Pt.U, Pt.locs, Pt.cells, Pt.slots] at X82 l82 y82 z82 st82 hQ82
        subst l82 y82 z82
        obtain ⟨rfl, N82q, e82⟩ := hQ82
        have N82 := Fr.app N81 N82q
        have pre83 : ∀ t, Steps p.tables e below (T82.setTop (mkF m 232 #[.val (.int p1), .val (.int p2), .val (.int p3), .val (.int p4), .val (.int p5), .val (.int p6), .val (.int (2 : Int32)), .val (.int f0), .val (.int f1), .val (.int f2), .val (.ref b51), .val (.ref b52), .val (.int tot), .val (.int (1 : Int32)), .val (.ref b68), .val (.ref b79), .val (.int tot)] [(.int (1 : Int32))])) t → Steps p.tables e below (s₁.setTop (entryFrame m #[(.int p1), (.int p2), (.int p3), (.int p4), (.int p5), (.int p6)] maxLocals)) t := fun t k => pre71 t (by
          show Steps p.tables e below (T70.setTop (mkF m 169 #[.val (.int p1), .val (.int p2), .val (.int p3), .val (.int p4), .val (.int p5), .val (.int p6), .val (.int (2 : Int32)), .val (.int f0), .val (.int f1), .val (.int f2), .val (.ref b51), .val (.ref b52), .val (.int tot), .val (.int (1 : Int32)), .val (.ref b68), .unset, .unset] [(.int (1 : Int32)), (.int tot)])) _
          refine XS.icmpYes X70.here hx rfl (pc0 := 169) (pc' := 181) rfl (hb hby at_169) rfl (flt (ht1 : ¬ ((1 : Int32) < tot))).2.2.2 (by decide) (by decide) ?_
          show Steps p.tables e below (T70.setTop (mkF m 181 #[.val (.int p1), .val (.int p2), .val (.int p3), .val (.int p4), .val (.int p5), .val (.int p6), .val (.int (2 : Int32)), .val (.int f0), .val (.int f1), .val (.int f2), .val (.ref b51), .val (.ref b52), .val (.int tot), .val (.int (1 : Int32)), .val (.ref b68), .unset, .unset] [])) _
          refine st79 _ ?_
          show Steps p.tables e below (T79.setTop (mkF m 184 #[.val (.int p1), .val (.int p2), .val (.int p3), .val (.int p4), .val (.int p5), .val (.int p6), .val (.int (2 : Int32)), .val (.int f0), .val (.int f1), .val (.int f2), .val (.ref b51), .val (.ref b52), .val (.int tot), .val (.int (1 : Int32)), .val (.ref b68), .unset, .unset] [(.ref b79)])) _
          refine XS.dup X79.here hx rfl (hb hby at_184) rfl rfl ?_
          show Steps p.tables e below (T79.setTop (mkF m 185 #[.val (.int p1), .val (.int p2), .val (.int p3), .val (.int p4), .val (.int p5), .val (.int p6), .val (.int (2 : Int32)), .val (.int f0), .val (.int f1), .val (.int f2), .val (.ref b51), .val (.ref b52), .val (.int tot), .val (.int (1 : Int32)), .val (.ref b68), .unset, .unset] [(.ref b79), (.ref b79)])) _
          refine XS.aload X79.here hx rfl (hb hby at_185) rfl rfl ?_
          show Steps p.tables e below (T79.setTop (mkF m 187 #[.val (.int p1), .val (.int p2), .val (.int p3), .val (.int p4), .val (.int p5), .val (.int p6), .val (.int (2 : Int32)), .val (.int f0), .val (.int f1), .val (.int f2), .val (.ref b51), .val (.ref b52), .val (.int tot), .val (.int (1 : Int32)), .val (.ref b68), .unset, .unset] [(.ref b51), (.ref b79), (.ref b79)])) _
          refine XS.aload X79.here hx rfl (hb hby at_187) rfl rfl ?_
          show Steps p.tables e below (T79.setTop (mkF m 189 #[.val (.int p1), .val (.int p2), .val (.int p3), .val (.int p4), .val (.int p5), .val (.int p6), .val (.int (2 : Int32)), .val (.int f0), .val (.int f1), .val (.int f2), .val (.ref b51), .val (.ref b52), .val (.int tot), .val (.int (1 : Int32)), .val (.ref b68), .unset, .unset] [(.ref b52), (.ref b51), (.ref b79), (.ref b79)])) _
          refine XS.aload X79.here hx rfl (hb hby at_189) rfl rfl ?_
          show Steps p.tables e below (T79.setTop (mkF m 191 #[.val (.int p1), .val (.int p2), .val (.int p3), .val (.int p4), .val (.int p5), .val (.int p6), .val (.int (2 : Int32)), .val (.int f0), .val (.int f1), .val (.int f2), .val (.ref b51), .val (.ref b52), .val (.int tot), .val (.int (1 : Int32)), .val (.ref b68), .unset, .unset] [(.ref b68), (.ref b52), (.ref b51), (.ref b79), (.ref b79)])) _
          refine st80.trans ?_
          show Steps p.tables e below (T80.setTop (mkF m 194 #[.val (.int p1), .val (.int p2), .val (.int p3), .val (.int p4), .val (.int p5), .val (.int p6), .val (.int (2 : Int32)), .val (.int f0), .val (.int f1), .val (.int f2), .val (.ref b51), .val (.ref b52), .val (.int tot), .val (.int (1 : Int32)), .val (.ref b68), .unset, .unset] [(.ref b79)])) _
          refine XS.astore X80.here hx rfl (hb hby at_194) rfl rfl (l' := #[.val (.int p1), .val (.int p2), .val (.int p3), .val (.int p4), .val (.int p5), .val (.int p6), .val (.int (2 : Int32)), .val (.int f0), .val (.int f1), .val (.int f2), .val (.ref b51), .val (.ref b52), .val (.int tot), .val (.int (1 : Int32)), .val (.ref b68), .val (.ref b79), .unset]) rfl ?_
          show Steps p.tables e below (T80.setTop (mkF m 196 #[.val (.int p1), .val (.int p2), .val (.int p3), .val (.int p4), .val (.int p5), .val (.int p6), .val (.int (2 : Int32)), .val (.int f0), .val (.int f1), .val (.int f2), .val (.ref b51), .val (.ref b52), .val (.int tot), .val (.int (1 : Int32)), .val (.ref b68), .val (.ref b79), .unset] [])) _
          refine XS.aload X80.here hx rfl (hb hby at_196) rfl rfl ?_
          show Steps p.tables e below (T80.setTop (mkF m 198 #[.val (.int p1), .val (.int p2), .val (.int p3), .val (.int p4), .val (.int p5), .val (.int p6), .val (.int (2 : Int32)), .val (.int f0), .val (.int f1), .val (.int f2), .val (.ref b51), .val (.ref b52), .val (.int tot), .val (.int (1 : Int32)), .val (.ref b68), .val (.ref b79), .unset] [(.ref b79)])) _
          refine st81.trans ?_
          show Steps p.tables e below (T81.setTop (mkF m 201 #[.val (.int p1), .val (.int p2), .val (.int p3), .val (.int p4), .val (.int p5), .val (.int p6), .val (.int (2 : Int32)), .val (.int f0), .val (.int f1), .val (.int f2), .val (.ref b51), .val (.ref b52), .val (.int tot), .val (.int (1 : Int32)), .val (.ref b68), .val (.ref b79), .unset] [(.int tot)])) _
          refine XS.istore X81.here hx rfl (hb hby at_201) rfl (l' := #[.val (.int p1), .val (.int p2), .val (.int p3), .val (.int p4), .val (.int p5), .val (.int p6), .val (.int (2 : Int32)), .val (.int f0), .val (.int f1), .val (.int f2), .val (.ref b51), .val (.ref b52), .val (.int tot), .val (.int (1 : Int32)), .val (.ref b68), .val (.ref b79), .val (.int tot)]) rfl ?_
          show Steps p.tables e below (T81.setTop (mkF m 203 #[.val (.int p1), .val (.int p2), .val (.int p3), .val (.int p4), .val (.int p5), .val (.int p6), .val (.int (2 : Int32)), .val (.int f0), .val (.int f1), .val (.int f2), .val (.ref b51), .val (.ref b52), .val (.int tot), .val (.int (1 : Int32)), .val (.ref b68), .val (.ref b79), .val (.int tot)] [])) _
          refine XS.aload X81.here hx rfl (hb hby at_203) rfl rfl ?_
          show Steps p.tables e below (T81.setTop (mkF m 205 #[.val (.int p1), .val (.int p2), .val (.int p3), .val (.int p4), .val (.int p5), .val (.int p6), .val (.int (2 : Int32)), .val (.int f0), .val (.int f1), .val (.int f2), .val (.ref b51), .val (.ref b52), .val (.int tot), .val (.int (1 : Int32)), .val (.ref b68), .val (.ref b79), .val (.int tot)] [(.ref b79)])) _
          refine st82.trans ?_
          show Steps p.tables e below (T82.setTop (mkF m 208 #[.val (.int p1), .val (.int p2), .val (.int p3), .val (.int p4), .val (.int p5), .val (.int p6), .val (.int (2 : Int32)), .val (.int f0), .val (.int f1), .val (.int f2), .val (.ref b51), .val (.ref b52), .val (.int tot), .val (.int (1 : Int32)), .val (.ref b68), .val (.ref b79), .val (.int tot)] [(.int (1 : Int32))])) _
          refine XS.iload X82.here hx rfl (hb hby at_208) rfl ?_
          show Steps p.tables e below (T82.setTop (mkF m 210 #[.val (.int p1), .val (.int p2), .val (.int p3), .val (.int p4), .val (.int p5), .val (.int p6), .val (.int (2 : Int32)), .val (.int f0), .val (.int f1), .val (.int f2), .val (.ref b51), .val (.ref b52), .val (.int tot), .val (.int (1 : Int32)), .val (.ref b68), .val (.ref b79), .val (.int tot)] [(.int (1 : Int32)), (.int (1 : Int32))])) _
          refine XS.icmpYes X82.here hx rfl (pc0 := 210) (pc' := 215) rfl (hb hby at_210) rfl (teq ((by decide) : (1 : Int32) = (1 : Int32))).1 (by decide) (by decide) ?_
          show Steps p.tables e below (T82.setTop (mkF m 215 #[.val (.int p1), .val (.int p2), .val (.int p3), .val (.int p4), .val (.int p5), .val (.int p6), .val (.int (2 : Int32)), .val (.int f0), .val (.int f1), .val (.int f2), .val (.ref b51), .val (.ref b52), .val (.int tot), .val (.int (1 : Int32)), .val (.ref b68), .val (.ref b79), .val (.int tot)] [])) _
          refine XS.iload X82.here hx rfl (hb hby at_215) rfl ?_
          show Steps p.tables e below (T82.setTop (mkF m 217 #[.val (.int p1), .val (.int p2), .val (.int p3), .val (.int p4), .val (.int p5), .val (.int p6), .val (.int (2 : Int32)), .val (.int f0), .val (.int f1), .val (.int f2), .val (.ref b51), .val (.ref b52), .val (.int tot), .val (.int (1 : Int32)), .val (.ref b68), .val (.ref b79), .val (.int tot)] [(.int (1 : Int32))])) _
          refine XS.ifNo X82.here hx rfl (hb hby at_217) rfl ((if0 _ _).trans (feq ((by decide) : ¬ ((1 : Int32) = (0 : Int32)))).1) ?_
          show Steps p.tables e below (T82.setTop (mkF m 220 #[.val (.int p1), .val (.int p2), .val (.int p3), .val (.int p4), .val (.int p5), .val (.int p6), .val (.int (2 : Int32)), .val (.int f0), .val (.int f1), .val (.int f2), .val (.ref b51), .val (.ref b52), .val (.int tot), .val (.int (1 : Int32)), .val (.ref b68), .val (.ref b79), .val (.int tot)] [])) _
          refine XS.iload X82.here hx rfl (hb hby at_220) rfl ?_
          show Steps p.tables e below (T82.setTop (mkF m 222 #[.val (.int p1), .val (.int p2), .val (.int p3), .val (.int p4), .val (.int p5), .val (.int p6), .val (.int (2 : Int32)), .val (.int f0), .val (.int f1), .val (.int f2), .val (.ref b51), .val (.ref b52), .val (.int tot), .val (.int (1 : Int32)), .val (.ref b68), .val (.ref b79), .val (.int tot)] [(.int tot)])) _
          refine XS.iload X82.here hx rfl (hb hby at_222) rfl ?_
          show Steps p.tables e below (T82.setTop (mkF m 224 #[.val (.int p1), .val (.int p2), .val (.int p3), .val (.int p4), .val (.int p5), .val (.int p6), .val (.int (2 : Int32)), .val (.int f0), .val (.int f1), .val (.int f2), .val (.ref b51), .val (.ref b52), .val (.int tot), .val (.int (1 : Int32)), .val (.ref b68), .val (.ref b79), .val (.int tot)] [(.int tot), (.int tot)])) _
          refine XS.icmpNo X82.here hx rfl (hb hby at_224) rfl (teq (rfl : tot = tot)).2 ?_
          show Steps p.tables e below (T82.setTop (mkF m 227 #[.val (.int p1), .val (.int p2), .val (.int p3), .val (.int p4), .val (.int p5), .val (.int p6), .val (.int (2 : Int32)), .val (.int f0), .val (.int f1), .val (.int f2), .val (.ref b51), .val (.ref b52), .val (.int tot), .val (.int (1 : Int32)), .val (.ref b68), .val (.ref b79), .val (.int tot)] [])) _
          refine XS.iconst X82.here hx rfl (hb hby at_227) ?_
          show Steps p.tables e below (T82.setTop (mkF m 228 #[.val (.int p1), .val (.int p2), .val (.int p3), .val (.int p4), .val (.int p5), .val (.int p6), .val (.int (2 : Int32)), .val (.int f0), .val (.int f1), .val (.int f2), .val (.ref b51), .val (.ref b52), .val (.int tot), .val (.int (1 : Int32)), .val (.ref b68), .val (.ref b79), .val (.int tot)] [(.int (1 : Int32))])) _
          refine XS.goto X82.here hx rfl (pc0 := 228) (pc' := 232) rfl (hb hby at_228) (by decide) (by decide) ?_
          exact k)
        obtain ⟨fs, hr, hrun, hended, hW, hsame⟩ := X82.leave (v := some (.int (nar .boolean (1 : Int32)))) (fun h => by rw [Bd.returns] at h; cases h)
        refine ⟨_, _, pre83 _ ?_, hrun, hended, _, _, rfl, ?_, ⟨_, rfl⟩, hW, hsame.mono (by decide) (by decide)⟩
        · show Steps p.tables e below (T82.setTop (mkF m 232 #[.val (.int p1), .val (.int p2), .val (.int p3), .val (.int p4), .val (.int p5), .val (.int p6), .val (.int (2 : Int32)), .val (.int f0), .val (.int f1), .val (.int f2), .val (.ref b51), .val (.ref b52), .val (.int tot), .val (.int (1 : Int32)), .val (.ref b68), .val (.ref b79), .val (.int tot)] [(.int (1 : Int32))])) _
          exact retN X82 hx (t := .boolean) Bd.returns (by simp) (hb hby at_232) hr
        · show QL n0 _ T82.heap _
          rw [e82]
          exact ⟨rfl, N82⟩
  · subst hn4
    obtain ⟨T84, h84, k84, X84, e84, E84, A84, st84⟩ := newP X0 hx hZ (hw _ (List.mem_of_getElem? (i := 0) rfl)) e0 (g := (mkF m 28 #[.val (.int p1), .val (.int p2), .val (.int p3), .val (.int p4), .val (.int p5), .val (.int p6), .val (.int (3 : Int32)), .val (.int f0), .val (.int f1), .val (.int f2), .unset, .unset, .unset, .unset, .unset, .unset, .unset] [(.int (3 : Int32))])) rfl (hb hby at_28) rfl (by decide) (cap := 3) (by decide) (by decide) (by decide) (by decide)
    obtain ⟨b84, g84⟩ : ∃ z, z = h0.size := ⟨_, rfl⟩
    rw [← g84] at A84 st84
    have g_b84 : n0 ≤ b84 := Nat.le_trans Z0 (Nat.le_of_eq g84.symm)
    have z84 : n0 ≤ h84.size := Nat.le_trans Z0 E84.1
    have V_b84 : Arv Z h84 b84 k84 .int (3 : Int32) [(.int (0 : Int32)), (.int (0 : Int32)), (.int (0 : Int32))] (.int (0 : Int32)) := (Arv.new A84 (by decide)).pad (pad_rep [] (.int (0 : Int32)) 3)
    obtain ⟨T85, h85, k85, X85, e85, E85, A85, st85⟩ := newP X84 hx hZ (hw _ (List.mem_of_getElem? (i := 0) rfl)) e84 (g := (mkF m 34 #[.val (.int p1), .val (.int p2), .val (.int p3), .val (.int p4), .val (.int p5), .val (.int p6), .val (.int (3 : Int32)), .val (.int f0), .val (.int f1), .val (.int f2), .val (.ref b84), .unset, .unset, .unset, .unset, .unset, .unset] [(.int (3 : Int32))])) rfl (hb hby at_34) rfl (by decide) (cap := 3) (by decide) (by decide) (by decide) (by decide)
    obtain ⟨b85, g85⟩ : ∃ z, z = h84.size := ⟨_, rfl⟩
    rw [← g85] at A85 st85
    have ne_b84_b85 : b84 ≠ b85 := Nat.ne_of_lt (Nat.lt_of_lt_of_le (V_b84).lt (Nat.le_of_eq g85.symm))
    have g_b85 : n0 ≤ b85 := Nat.le_trans z84 (Nat.le_of_eq g85.symm)
    have V85_0 := V_b84.ext E85
    have z85 : n0 ≤ h85.size := Nat.le_trans z84 E85.1
    have V_b85 : Arv Z h85 b85 k85 .int (3 : Int32) [(.int (0 : Int32)), (.int (0 : Int32)), (.int (0 : Int32))] (.int (0 : Int32)) := (Arv.new A85 (by decide)).pad (pad_rep [] (.int (0 : Int32)) 3)
    obtain ⟨cl86, Ar86, q86, S86, M86, H86, G86⟩ := id V85_0
    have hin86 : ¬ ((0 : Int32) < 0 ∨ cl86.slots.size ≤ ((0 : Int32)).toNatClampNeg) := inb_of S86 ⟨by decide, by decide⟩
    obtain ⟨T87, h87, X87, e87, W87, st87⟩ := stI X85 hx hZ e85 Ar86 (j := (0 : Int32)) hin86 (g := (mkF m 47 #[.val (.int p1), .val (.int p2), .val (.int p3), .val (.int p4), .val (.int p5), .val (.int p6), .val (.int (3 : Int32)), .val (.int f0), .val (.int f1), .val (.int f2), .val (.ref b84), .val (.ref b85), .unset, .unset, .unset, .unset, .unset] [(.int (1 : Int32)), (.int (0 : Int32)), (.ref b84)])) rfl rfl (hb hby at_47)
    have V_b84_87 : Arv Z h87 b84 k84 .int (3 : Int32) [(.int (1 : Int32)), (.int (0 : Int32)), (.int (0 : Int32))] (.int (0 : Int32)) := Arv.set Ar86 q86 S86 M86 H86 G86 rfl W87 0 rfl (Nat.le_of_ble_eq_true rfl)
    have V87_1 := V_b85.other W87 (Ne.symm ne_b84_b85)
    have z87 : n0 ≤ h87.size := by rw [W87.size]; exact z85
    have N87 := Fr.snoc X87 N0 g_b84
    obtain ⟨cl88, Ar88, q88, S88, M88, H88, G88⟩ := id V87_1
    have hin88 : ¬ ((0 : Int32) < 0 ∨ cl88.slots.size ≤ ((0 : Int32)).toNatClampNeg) := inb_of S88 ⟨by decide, by decide⟩
    obtain ⟨T89, h89, X89, e89, W89, st89⟩ := stI X87 hx hZ e87 Ar88 (j := (0 : Int32)) hin88 (g := (mkF m 53 #[.val (.int p1), .val (.int p2), .val (.int p3), .val (.int p4), .val (.int p5), .val (.int p6), .val (.int (3 : Int32)), .val (.int f0), .val (.int f1), .val (.int f2), .val (.ref b84), .val (.ref b85), .unset, .unset, .unset, .unset, .unset] [(.int f0), (.int (0 : Int32)), (.ref b85)])) rfl rfl (hb hby at_53)
    have V_b85_89 : Arv Z h89 b85 k85 .int (3 : Int32) [(.int f0), (.int (0 : Int32)), (.int (0 : Int32))] (.int (0 : Int32)) := Arv.set Ar88 q88 S88 M88 H88 G88 rfl W89 0 rfl (Nat.le_of_ble_eq_true rfl)
    have V89_0 := V_b84_87.other W89 ne_b84_b85
    have z89 : n0 ≤ h89.size := by rw [W89.size]; exact z87
    have N89 := Fr.snoc X89 N87 g_b85
    obtain ⟨cl90, Ar90, q90, S90, M90, H90, G90⟩ := id V89_0
    have hin90 : ¬ ((1 : Int32) < 0 ∨ cl90.slots.size ≤ ((1 : Int32)).toNatClampNeg) := inb_of S90 ⟨by decide, by decide⟩
    obtain ⟨T91, h91, X91, e91, W91, st91⟩ := stI X89 hx hZ e89 Ar90 (j := (1 : Int32)) hin90 (g := (mkF m 64 #[.val (.int p1), .val (.int p2), .val (.int p3), .val (.int p4), .val (.int p5), .val (.int p6), .val (.int (3 : Int32)), .val (.int f0), .val (.int f1), .val (.int f2), .val (.ref b84), .val (.ref b85), .unset, .unset, .unset, .unset, .unset] [(.int (2 : Int32)), (.int (1 : Int32)), (.ref b84)])) rfl rfl (hb hby at_64)
    have V_b84_91 : Arv Z h91 b84 k84 .int (3 : Int32) [(.int (1 : Int32)), (.int (2 : Int32)), (.int (0 : Int32))] (.int (0 : Int32)) := Arv.set Ar90 q90 S90 M90 H90 G90 rfl W91 1 rfl (Nat.le_of_ble_eq_true rfl)
    have V91_1 := V_b85_89.other W91 (Ne.symm ne_b84_b85)
    have z91 : n0 ≤ h91.size := by rw [W91.size]; exact z89
    have N91 := Fr.snoc X91 N89 g_b84
    obtain ⟨cl92, Ar92, q92, S92, M92, H92, G92⟩ := id V91_1
    have hin92 : ¬ ((1 : Int32) < 0 ∨ cl92.slots.size ≤ ((1 : Int32)).toNatClampNeg) := inb_of S92 ⟨by decide, by decide⟩
    obtain ⟨T93, h93, X93, e93, W93, st93⟩ := stI X91 hx hZ e91 Ar92 (j := (1 : Int32)) hin92 (g := (mkF m 70 #[.val (.int p1), .val (.int p2), .val (.int p3), .val (.int p4), .val (.int p5), .val (.int p6), .val (.int (3 : Int32)), .val (.int f0), .val (.int f1), .val (.int f2), .val (.ref b84), .val (.ref b85), .unset, .unset, .unset, .unset, .unset] [(.int f1), (.int (1 : Int32)), (.ref b85)])) rfl rfl (hb hby at_70)
    have V_b85_93 : Arv Z h93 b85 k85 .int (3 : Int32) [(.int f0), (.int f1), (.int (0 : Int32))] (.int (0 : Int32)) := Arv.set Ar92 q92 S92 M92 H92 G92 rfl W93 1 rfl (Nat.le_of_ble_eq_true rfl)
    have V93_0 := V_b84_91.other W93 ne_b84_b85
    have z93 : n0 ≤ h93.size := by rw [W93.size]; exact z91
    have N93 := Fr.snoc X93 N91 g_b85
    obtain ⟨cl94, Ar94, q94, S94, M94, H94, G94⟩ := id V93_0
    have hin94 : ¬ ((2 : Int32) < 0 ∨ cl94.slots.size ≤ ((2 : Int32)).toNatClampNeg) := inb_of S94 ⟨by decide, by decide⟩
    obtain ⟨T95, h95, X95, e95, W95, st95⟩ := stI X93 hx hZ e93 Ar94 (j := (2 : Int32)) hin94 (g := (mkF m 81 #[.val (.int p1), .val (.int p2), .val (.int p3), .val (.int p4), .val (.int p5), .val (.int p6), .val (.int (3 : Int32)), .val (.int f0), .val (.int f1), .val (.int f2), .val (.ref b84), .val (.ref b85), .unset, .unset, .unset, .unset, .unset] [(.int (3 : Int32)), (.int (2 : Int32)), (.ref b84)])) rfl rfl (hb hby at_81)
    have V_b84_95 : Arv Z h95 b84 k84 .int (3 : Int32) [(.int (1 : Int32)), (.int (2 : Int32)), (.int (3 : Int32))] (.int (0 : Int32)) := Arv.set Ar94 q94 S94 M94 H94 G94 rfl W95 2 rfl (Nat.le_of_ble_eq_true rfl)
    have V95_1 := V_b85_93.other W95 (Ne.symm ne_b84_b85)
    have z95 : n0 ≤ h95.size := by rw [W95.size]; exact z93
    have N95 := Fr.snoc X95 N93 g_b84
    obtain ⟨cl96, Ar96, q96, S96, M96, H96, G96⟩ := id V95_1
    have hin96 : ¬ ((2 : Int32) < 0 ∨ cl96.slots.size ≤ ((2 : Int32)).toNatClampNeg) := inb_of S96 ⟨by decide, by decide⟩
    obtain ⟨T97, h97, X97, e97, W97, st97⟩ := stI X95 hx hZ e95 Ar96 (j := (2 : Int32)) hin96 (g := (mkF m 87 #[.val (.int p1), .val (.int p2), .val (.int p3), .val (.int p4), .val (.int p5), .val (.int p6), .val (.int (3 : Int32)), .val (.int f0), .val (.int f1), .val (.int f2), .val (.ref b84), .val (.ref b85), .unset, .unset, .unset, .unset, .unset] [(.int f2), (.int (2 : Int32)), (.ref b85)])) rfl rfl (hb hby at_87)
    have V_b85_97 : Arv Z h97 b85 k85 .int (3 : Int32) [(.int f0), (.int f1), (.int f2)] (.int (0 : Int32)) := Arv.set Ar96 q96 S96 M96 H96 G96 rfl W97 2 rfl (Nat.le_of_ble_eq_true rfl)
    have V97_0 := V_b84_95.other W97 ne_b84_b85
    have z97 : n0 ≤ h97.size := by rw [W97.size]; exact z95
    have N97 := Fr.snoc X97 N95 g_b85
    have htot := own_tot3 hf0 hf1 hf2
    have pre98 : ∀ t, Steps p.tables e below (T97.setTop (mkF m 125 #[.val (.int p1), .val (.int p2), .val (.int p3), .val (.int p4), .val (.int p5), .val (.int p6), .val (.int (3 : Int32)), .val (.int f0), .val (.int f1), .val (.int f2), .val (.ref b84), .val (.ref b85), .unset, .unset, .unset, .unset, .unset] [(.int ((f0 + f1) + f2))])) t → Steps p.tables e below (s₁.setTop (entryFrame m #[(.int p1), (.int p2), (.int p3), (.int p4), (.int p5), (.int p6)] maxLocals)) t := fun t k => pre5 t (by
      show Steps p.tables e below (s₁.setTop (mkF m 28 #[.val (.int p1), .val (.int p2), .val (.int p3), .val (.int p4), .val (.int p5), .val (.int p6), .val (.int (3 : Int32)), .val (.int f0), .val (.int f1), .val (.int f2), .unset, .unset, .unset, .unset, .unset, .unset, .unset] [(.int (3 : Int32))])) _
      refine st84 _ ?_
      show Steps p.tables e below (T84.setTop (mkF m 30 #[.val (.int p1), .val (.int p2), .val (.int p3), .val (.int p4), .val (.int p5), .val (.int p6), .val (.int (3 : Int32)), .val (.int f0), .val (.int f1), .val (.int f2), .unset, .unset, .unset, .unset, .unset, .unset, .unset] [(.ref b84)])) _
      refine XS.astore X84.here hx rfl (hb hby at_30) rfl rfl (l' := #[.val (.int p1), .val (.int p2), .val (.int p3), .val (.int p4), .val (.int p5), .val (.int p6), .val (.int (3 : Int32)), .val (.int f0), .val (.int f1), .val (.int f2), .val (.ref b84), .unset, .unset, .unset, .unset, .unset, .unset]) rfl ?_
      show Steps p.tables e below (T84.setTop (mkF m 32 #[.val (.int p1), .val (.int p2), .val (.int p3), .val (.int p4), .val (.int p5), .val (.int p6), .val (.int (3 : Int32)), .val (.int f0), .val (.int f1), .val (.int f2), .val (.ref b84), .unset, .unset, .unset, .unset, .unset, .unset] [])) _
      refine XS.iload X84.here hx rfl (hb hby at_32) rfl ?_
      show Steps p.tables e below (T84.setTop (mkF m 34 #[.val (.int p1), .val (.int p2), .val (.int p3), .val (.int p4), .val (.int p5), .val (.int p6), .val (.int (3 : Int32)), .val (.int f0), .val (.int f1), .val (.int f2), .val (.ref b84), .unset, .unset, .unset, .unset, .unset, .unset] [(.int (3 : Int32))])) _
      refine st85 _ ?_
      show Steps p.tables e below (T85.setTop (mkF m 36 #[.val (.int p1), .val (.int p2), .val (.int p3), .val (.int p4), .val (.int p5), .val (.int p6), .val (.int (3 : Int32)), .val (.int f0), .val (.int f1), .val (.int f2), .val (.ref b84), .unset, .unset, .unset, .unset, .unset, .unset] [(.ref b85)])) _
      refine XS.astore X85.here hx rfl (hb hby at_36) rfl rfl (l' := #[.val (.int p1), .val (.int p2), .val (.int p3), .val (.int p4), .val (.int p5), .val (.int p6), .val (.int (3 : Int32)), .val (.int f0), .val (.int f1), .val (.int f2), .val (.ref b84), .val (.ref b85), .unset, .unset, .unset, .unset, .unset]) rfl ?_
      show Steps p.tables e below (T85.setTop (mkF m 38 #[.val (.int p1), .val (.int p2), .val (.int p3), .val (.int p4), .val (.int p5), .val (.int p6), .val (.int (3 : Int32)), .val (.int f0), .val (.int f1), .val (.int f2), .val (.ref b84), .val (.ref b85), .unset, .unset, .unset, .unset, .unset] [])) _
      refine XS.iload X85.here hx rfl (hb hby at_38) rfl ?_
      show Steps p.tables e below (T85.setTop (mkF m 40 #[.val (.int p1), .val (.int p2), .val (.int p3), .val (.int p4), .val (.int p5), .val (.int p6), .val (.int (3 : Int32)), .val (.int f0), .val (.int f1), .val (.int f2), .val (.ref b84), .val (.ref b85), .unset, .unset, .unset, .unset, .unset] [(.int (3 : Int32))])) _
      refine XS.ifNo X85.here hx rfl (hb hby at_40) rfl ((if0 _ _).trans (tlt ((by decide) : (0 : Int32) < (3 : Int32))).2.2.2) ?_
      show Steps p.tables e below (T85.setTop (mkF m 43 #[.val (.int p1), .val (.int p2), .val (.int p3), .val (.int p4), .val (.int p5), .val (.int p6), .val (.int (3 : Int32)), .val (.int f0), .val (.int f1), .val (.int f2), .val (.ref b84), .val (.ref b85), .unset, .unset, .unset, .unset, .unset] [])) _
      refine XS.aload X85.here hx rfl (hb hby at_43) rfl rfl ?_
      show Steps p.tables e below (T85.setTop (mkF m 45 #[.val (.int p1), .val (.int p2), .val (.int p3), .val (.int p4), .val (.int p5), .val (.int p6), .val (.int (3 : Int32)), .val (.int f0), .val (.int f1), .val (.int f2), .val (.ref b84), .val (.ref b85), .unset, .unset, .unset, .unset, .unset] [(.ref b84)])) _
      refine XS.iconst X85.here hx rfl (hb hby at_45) ?_
      show Steps p.tables e below (T85.setTop (mkF m 46 #[.val (.int p1), .val (.int p2), .val (.int p3), .val (.int p4), .val (.int p5), .val (.int p6), .val (.int (3 : Int32)), .val (.int f0), .val (.int f1), .val (.int f2), .val (.ref b84), .val (.ref b85), .unset, .unset, .unset, .unset, .unset] [(.int (0 : Int32)), (.ref b84)])) _
      refine XS.iconst X85.here hx rfl (hb hby at_46) ?_
      show Steps p.tables e below (T85.setTop (mkF m 47 #[.val (.int p1), .val (.int p2), .val (.int p3), .val (.int p4), .val (.int p5), .val (.int p6), .val (.int (3 : Int32)), .val (.int f0), .val (.int f1), .val (.int f2), .val (.ref b84), .val (.ref b85), .unset, .unset, .unset, .unset, .unset] [(.int (1 : Int32)), (.int (0 : Int32)), (.ref b84)])) _
      refine st87 _ ?_
      show Steps p.tables e below (T87.setTop (mkF m 48 #[.val (.int p1), .val (.int p2), .val (.int p3), .val (.int p4), .val (.int p5), .val (.int p6), .val (.int (3 : Int32)), .val (.int f0), .val (.int f1), .val (.int f2), .val (.ref b84), .val (.ref b85), .unset, .unset, .unset, .unset, .unset] [])) _
      refine XS.aload X87.here hx rfl (hb hby at_48) rfl rfl ?_
      show Steps p.tables e below (T87.setTop (mkF m 50 #[.val (.int p1), .val (.int p2), .val (.int p3), .val (.int p4), .val (.int p5), .val (.int p6), .val (.int (3 : Int32)), .val (.int f0), .val (.int f1), .val (.int f2), .val (.ref b84), .val (.ref b85), .unset, .unset, .unset, .unset, .unset] [(.ref b85)])) _
      refine XS.iconst X87.here hx rfl (hb hby at_50) ?_
      show Steps p.tables e below (T87.setTop (mkF m 51 #[.val (.int p1), .val (.int p2), .val (.int p3), .val (.int p4), .val (.int p5), .val (.int p6), .val (.int (3 : Int32)), .val (.int f0), .val (.int f1), .val (.int f2), .val (.ref b84), .val (.ref b85), .unset, .unset, .unset, .unset, .unset] [(.int (0 : Int32)), (.ref b85)])) _
      refine XS.iload X87.here hx rfl (hb hby at_51) rfl ?_
      show Steps p.tables e below (T87.setTop (mkF m 53 #[.val (.int p1), .val (.int p2), .val (.int p3), .val (.int p4), .val (.int p5), .val (.int p6), .val (.int (3 : Int32)), .val (.int f0), .val (.int f1), .val (.int f2), .val (.ref b84), .val (.ref b85), .unset, .unset, .unset, .unset, .unset] [(.int f0), (.int (0 : Int32)), (.ref b85)])) _
      refine st89 _ ?_
      show Steps p.tables e below (T89.setTop (mkF m 54 #[.val (.int p1), .val (.int p2), .val (.int p3), .val (.int p4), .val (.int p5), .val (.int p6), .val (.int (3 : Int32)), .val (.int f0), .val (.int f1), .val (.int f2), .val (.ref b84), .val (.ref b85), .unset, .unset, .unset, .unset, .unset] [])) _
      refine XS.iload X89.here hx rfl (hb hby at_54) rfl ?_
      show Steps p.tables e below (T89.setTop (mkF m 56 #[.val (.int p1), .val (.int p2), .val (.int p3), .val (.int p4), .val (.int p5), .val (.int p6), .val (.int (3 : Int32)), .val (.int f0), .val (.int f1), .val (.int f2), .val (.ref b84), .val (.ref b85), .unset, .unset, .unset, .unset, .unset] [(.int (3 : Int32))])) _
      refine XS.iconst X89.here hx rfl (hb hby at_56) ?_
      show Steps p.tables e below (T89.setTop (mkF m 57 #[.val (.int p1), .val (.int p2), .val (.int p3), .val (.int p4), .val (.int p5), .val (.int p6), .val (.int (3 : Int32)), .val (.int f0), .val (.int f1), .val (.int f2), .val (.ref b84), .val (.ref b85), .unset, .unset, .unset, .unset, .unset] [(.int (1 : Int32)), (.int (3 : Int32))])) _
      refine XS.icmpNo X89.here hx rfl (hb hby at_57) rfl (tlt ((by decide) : (1 : Int32) < (3 : Int32))).2.2.2 ?_
      show Steps p.tables e below (T89.setTop (mkF m 60 #[.val (.int p1), .val (.int p2), .val (.int p3), .val (.int p4), .val (.int p5), .val (.int p6), .val (.int (3 : Int32)), .val (.int f0), .val (.int f1), .val (.int f2), .val (.ref b84), .val (.ref b85), .unset, .unset, .unset, .unset, .unset] [])) _
      refine XS.aload X89.here hx rfl (hb hby at_60) rfl rfl ?_
      show Steps p.tables e below (T89.setTop (mkF m 62 #[.val (.int p1), .val (.int p2), .val (.int p3), .val (.int p4), .val (.int p5), .val (.int p6), .val (.int (3 : Int32)), .val (.int f0), .val (.int f1), .val (.int f2), .val (.ref b84), .val (.ref b85), .unset, .unset, .unset, .unset, .unset] [(.ref b84)])) _
      refine XS.iconst X89.here hx rfl (hb hby at_62) ?_
      show Steps p.tables e below (T89.setTop (mkF m 63 #[.val (.int p1), .val (.int p2), .val (.int p3), .val (.int p4), .val (.int p5), .val (.int p6), .val (.int (3 : Int32)), .val (.int f0), .val (.int f1), .val (.int f2), .val (.ref b84), .val (.ref b85), .unset, .unset, .unset, .unset, .unset] [(.int (1 : Int32)), (.ref b84)])) _
      refine XS.iconst X89.here hx rfl (hb hby at_63) ?_
      show Steps p.tables e below (T89.setTop (mkF m 64 #[.val (.int p1), .val (.int p2), .val (.int p3), .val (.int p4), .val (.int p5), .val (.int p6), .val (.int (3 : Int32)), .val (.int f0), .val (.int f1), .val (.int f2), .val (.ref b84), .val (.ref b85), .unset, .unset, .unset, .unset, .unset] [(.int (2 : Int32)), (.int (1 : Int32)), (.ref b84)])) _
      refine st91 _ ?_
      show Steps p.tables e below (T91.setTop (mkF m 65 #[.val (.int p1), .val (.int p2), .val (.int p3), .val (.int p4), .val (.int p5), .val (.int p6), .val (.int (3 : Int32)), .val (.int f0), .val (.int f1), .val (.int f2), .val (.ref b84), .val (.ref b85), .unset, .unset, .unset, .unset, .unset] [])) _
      refine XS.aload X91.here hx rfl (hb hby at_65) rfl rfl ?_
      show Steps p.tables e below (T91.setTop (mkF m 67 #[.val (.int p1), .val (.int p2), .val (.int p3), .val (.int p4), .val (.int p5), .val (.int p6), .val (.int (3 : Int32)), .val (.int f0), .val (.int f1), .val (.int f2), .val (.ref b84), .val (.ref b85), .unset, .unset, .unset, .unset, .unset] [(.ref b85)])) _
      refine XS.iconst X91.here hx rfl (hb hby at_67) ?_
      show Steps p.tables e below (T91.setTop (mkF m 68 #[.val (.int p1), .val (.int p2), .val (.int p3), .val (.int p4), .val (.int p5), .val (.int p6), .val (.int (3 : Int32)), .val (.int f0), .val (.int f1), .val (.int f2), .val (.ref b84), .val (.ref b85), .unset, .unset, .unset, .unset, .unset] [(.int (1 : Int32)), (.ref b85)])) _
      refine XS.iload X91.here hx rfl (hb hby at_68) rfl ?_
      show Steps p.tables e below (T91.setTop (mkF m 70 #[.val (.int p1), .val (.int p2), .val (.int p3), .val (.int p4), .val (.int p5), .val (.int p6), .val (.int (3 : Int32)), .val (.int f0), .val (.int f1), .val (.int f2), .val (.ref b84), .val (.ref b85), .unset, .unset, .unset, .unset, .unset] [(.int f1), (.int (1 : Int32)), (.ref b85)])) _
      refine st93 _ ?_
      show Steps p.tables e below (T93.setTop (mkF m 71 #[.val (.int p1), .val (.int p2), .val (.int p3), .val (.int p4), .val (.int p5), .val (.int p6), .val (.int (3 : Int32)), .val (.int f0), .val (.int f1), .val (.int f2), .val (.ref b84), .val (.ref b85), .unset, .unset, .unset, .unset, .unset] [])) _
      refine XS.iload X93.here hx rfl (hb hby at_71) rfl ?_
      show Steps p.tables e below (T93.setTop (mkF m 73 #[.val (.int p1), .val (.int p2), .val (.int p3), .val (.int p4), .val (.int p5), .val (.int p6), .val (.int (3 : Int32)), .val (.int f0), .val (.int f1), .val (.int f2), .val (.ref b84), .val (.ref b85), .unset, .unset, .unset, .unset, .unset] [(.int (3 : Int32))])) _
      refine XS.iconst X93.here hx rfl (hb hby at_73) ?_
      show Steps p.tables e below (T93.setTop (mkF m 74 #[.val (.int p1), .val (.int p2), .val (.int p3), .val (.int p4), .val (.int p5), .val (.int p6), .val (.int (3 : Int32)), .val (.int f0), .val (.int f1), .val (.int f2), .val (.ref b84), .val (.ref b85), .unset, .unset, .unset, .unset, .unset] [(.int (2 : Int32)), (.int (3 : Int32))])) _
      refine XS.icmpNo X93.here hx rfl (hb hby at_74) rfl (tlt ((by decide) : (2 : Int32) < (3 : Int32))).2.2.2 ?_
      show Steps p.tables e below (T93.setTop (mkF m 77 #[.val (.int p1), .val (.int p2), .val (.int p3), .val (.int p4), .val (.int p5), .val (.int p6), .val (.int (3 : Int32)), .val (.int f0), .val (.int f1), .val (.int f2), .val (.ref b84), .val (.ref b85), .unset, .unset, .unset, .unset, .unset] [])) _
      refine XS.aload X93.here hx rfl (hb hby at_77) rfl rfl ?_
      show Steps p.tables e below (T93.setTop (mkF m 79 #[.val (.int p1), .val (.int p2), .val (.int p3), .val (.int p4), .val (.int p5), .val (.int p6), .val (.int (3 : Int32)), .val (.int f0), .val (.int f1), .val (.int f2), .val (.ref b84), .val (.ref b85), .unset, .unset, .unset, .unset, .unset] [(.ref b84)])) _
      refine XS.iconst X93.here hx rfl (hb hby at_79) ?_
      show Steps p.tables e below (T93.setTop (mkF m 80 #[.val (.int p1), .val (.int p2), .val (.int p3), .val (.int p4), .val (.int p5), .val (.int p6), .val (.int (3 : Int32)), .val (.int f0), .val (.int f1), .val (.int f2), .val (.ref b84), .val (.ref b85), .unset, .unset, .unset, .unset, .unset] [(.int (2 : Int32)), (.ref b84)])) _
      refine XS.iconst X93.here hx rfl (hb hby at_80) ?_
      show Steps p.tables e below (T93.setTop (mkF m 81 #[.val (.int p1), .val (.int p2), .val (.int p3), .val (.int p4), .val (.int p5), .val (.int p6), .val (.int (3 : Int32)), .val (.int f0), .val (.int f1), .val (.int f2), .val (.ref b84), .val (.ref b85), .unset, .unset, .unset, .unset, .unset] [(.int (3 : Int32)), (.int (2 : Int32)), (.ref b84)])) _
      refine st95 _ ?_
      show Steps p.tables e below (T95.setTop (mkF m 82 #[.val (.int p1), .val (.int p2), .val (.int p3), .val (.int p4), .val (.int p5), .val (.int p6), .val (.int (3 : Int32)), .val (.int f0), .val (.int f1), .val (.int f2), .val (.ref b84), .val (.ref b85), .unset, .unset, .unset, .unset, .unset] [])) _
      refine XS.aload X95.here hx rfl (hb hby at_82) rfl rfl ?_
      show Steps p.tables e below (T95.setTop (mkF m 84 #[.val (.int p1), .val (.int p2), .val (.int p3), .val (.int p4), .val (.int p5), .val (.int p6), .val (.int (3 : Int32)), .val (.int f0), .val (.int f1), .val (.int f2), .val (.ref b84), .val (.ref b85), .unset, .unset, .unset, .unset, .unset] [(.ref b85)])) _
      refine XS.iconst X95.here hx rfl (hb hby at_84) ?_
      show Steps p.tables e below (T95.setTop (mkF m 85 #[.val (.int p1), .val (.int p2), .val (.int p3), .val (.int p4), .val (.int p5), .val (.int p6), .val (.int (3 : Int32)), .val (.int f0), .val (.int f1), .val (.int f2), .val (.ref b84), .val (.ref b85), .unset, .unset, .unset, .unset, .unset] [(.int (2 : Int32)), (.ref b85)])) _
      refine XS.iload X95.here hx rfl (hb hby at_85) rfl ?_
      show Steps p.tables e below (T95.setTop (mkF m 87 #[.val (.int p1), .val (.int p2), .val (.int p3), .val (.int p4), .val (.int p5), .val (.int p6), .val (.int (3 : Int32)), .val (.int f0), .val (.int f1), .val (.int f2), .val (.ref b84), .val (.ref b85), .unset, .unset, .unset, .unset, .unset] [(.int f2), (.int (2 : Int32)), (.ref b85)])) _
      refine st97 _ ?_
      show Steps p.tables e below (T97.setTop (mkF m 88 #[.val (.int p1), .val (.int p2), .val (.int p3), .val (.int p4), .val (.int p5), .val (.int p6), .val (.int (3 : Int32)), .val (.int f0), .val (.int f1), .val (.int f2), .val (.ref b84), .val (.ref b85), .unset, .unset, .unset, .unset, .unset] [])) _
      refine XS.iload X97.here hx rfl (hb hby at_88) rfl ?_
      show Steps p.tables e below (T97.setTop (mkF m 90 #[.val (.int p1), .val (.int p2), .val (.int p3), .val (.int p4), .val (.int p5), .val (.int p6), .val (.int (3 : Int32)), .val (.int f0), .val (.int f1), .val (.int f2), .val (.ref b84), .val (.ref b85), .unset, .unset, .unset, .unset, .unset] [(.int (3 : Int32))])) _
      refine XS.ifNo X97.here hx rfl (hb hby at_90) rfl ((if0 _ _).trans (tlt ((by decide) : (0 : Int32) < (3 : Int32))).2.2.2) ?_
      show Steps p.tables e below (T97.setTop (mkF m 93 #[.val (.int p1), .val (.int p2), .val (.int p3), .val (.int p4), .val (.int p5), .val (.int p6), .val (.int (3 : Int32)), .val (.int f0), .val (.int f1), .val (.int f2), .val (.ref b84), .val (.ref b85), .unset, .unset, .unset, .unset, .unset] [])) _
      refine XS.iload X97.here hx rfl (hb hby at_93) rfl ?_
      show Steps p.tables e below (T97.setTop (mkF m 95 #[.val (.int p1), .val (.int p2), .val (.int p3), .val (.int p4), .val (.int p5), .val (.int p6), .val (.int (3 : Int32)), .val (.int f0), .val (.int f1), .val (.int f2), .val (.ref b84), .val (.ref b85), .unset, .unset, .unset, .unset, .unset] [(.int f0)])) _
      refine XS.goto X97.here hx rfl (pc0 := 95) (pc' := 99) rfl (hb hby at_95) (by decide) (by decide) ?_
      show Steps p.tables e below (T97.setTop (mkF m 99 #[.val (.int p1), .val (.int p2), .val (.int p3), .val (.int p4), .val (.int p5), .val (.int p6), .val (.int (3 : Int32)), .val (.int f0), .val (.int f1), .val (.int f2), .val (.ref b84), .val (.ref b85), .unset, .unset, .unset, .unset, .unset] [(.int f0)])) _
      refine XS.iload X97.here hx rfl (hb hby at_99) rfl ?_
      show Steps p.tables e below (T97.setTop (mkF m 101 #[.val (.int p1), .val (.int p2), .val (.int p3), .val (.int p4), .val (.int p5), .val (.int p6), .val (.int (3 : Int32)), .val (.int f0), .val (.int f1), .val (.int f2), .val (.ref b84), .val (.ref b85), .unset, .unset, .unset, .unset, .unset] [(.int (3 : Int32)), (.int f0)])) _
      refine XS.iconst X97.here hx rfl (hb hby at_101) ?_
      show Steps p.tables e below (T97.setTop (mkF m 102 #[.val (.int p1), .val (.int p2), .val (.int p3), .val (.int p4), .val (.int p5), .val (.int p6), .val (.int (3 : Int32)), .val (.int f0), .val (.int f1), .val (.int f2), .val (.ref b84), .val (.ref b85), .unset, .unset, .unset, .unset, .unset] [(.int (1 : Int32)), (.int (3 : Int32)), (.int f0)])) _
      refine XS.icmpNo X97.here hx rfl (hb hby at_102) rfl (tlt ((by decide) : (1 : Int32) < (3 : Int32))).2.2.2 ?_
      show Steps p.tables e below (T97.setTop (mkF m 105 #[.val (.int p1), .val (.int p2), .val (.int p3), .val (.int p4), .val (.int p5), .val (.int p6), .val (.int (3 : Int32)), .val (.int f0), .val (.int f1), .val (.int f2), .val (.ref b84), .val (.ref b85), .unset, .unset, .unset, .unset, .unset] [(.int f0)])) _
      refine XS.iload X97.here hx rfl (hb hby at_105) rfl ?_
      show Steps p.tables e below (T97.setTop (mkF m 107 #[.val (.int p1), .val (.int p2), .val (.int p3), .val (.int p4), .val (.int p5), .val (.int p6), .val (.int (3 : Int32)), .val (.int f0), .val (.int f1), .val (.int f2), .val (.ref b84), .val (.ref b85), .unset, .unset, .unset, .unset, .unset] [(.int f1), (.int f0)])) _
      refine XS.goto X97.here hx rfl (pc0 := 107) (pc' := 111) rfl (hb hby at_107) (by decide) (by decide) ?_
      show Steps p.tables e below (T97.setTop (mkF m 111 #[.val (.int p1), .val (.int p2), .val (.int p3), .val (.int p4), .val (.int p5), .val (.int p6), .val (.int (3 : Int32)), .val (.int f0), .val (.int f1), .val (.int f2), .val (.ref b84), .val (.ref b85), .unset, .unset, .unset, .unset, .unset] [(.int f1), (.int f0)])) _
      refine XS.iadd X97.here hx rfl (hb hby at_111) rfl ?_
      show Steps p.tables e below (T97.setTop (mkF m 112 #[.val (.int p1), .val (.int p2), .val (.int p3), .val (.int p4), .val (.int p5), .val (.int p6), .val (.int (3 : Int32)), .val (.int f0), .val (.int f1), .val (.int f2), .val (.ref b84), .val (.ref b85), .unset, .unset, .unset, .unset, .unset] [(.int (f0 + f1))])) _
      refine XS.iload X97.here hx rfl (hb hby at_112) rfl ?_
      show Steps p.tables e below (T97.setTop (mkF m 114 #[.val (.int p1), .val (.int p2), .val (.int p3), .val (.int p4), .val (.int p5), .val (.int p6), .val (.int (3 : Int32)), .val (.int f0), .val (.int f1), .val (.int f2), .val (.ref b84), .val (.ref b85), .unset, .unset, .unset, .unset, .unset] [(.int (3 : Int32)), (.int (f0 + f1))])) _
      refine XS.iconst X97.here hx rfl (hb hby at_114) ?_
      show Steps p.tables e below (T97.setTop (mkF m 115 #[.val (.int p1), .val (.int p2), .val (.int p3), .val (.int p4), .val (.int p5), .val (.int p6), .val (.int (3 : Int32)), .val (.int f0), .val (.int f1), .val (.int f2), .val (.ref b84), .val (.ref b85), .unset, .unset, .unset, .unset, .unset] [(.int (2 : Int32)), (.int (3 : Int32)), (.int (f0 + f1))])) _
      refine XS.icmpNo X97.here hx rfl (hb hby at_115) rfl (tlt ((by decide) : (2 : Int32) < (3 : Int32))).2.2.2 ?_
      show Steps p.tables e below (T97.setTop (mkF m 118 #[.val (.int p1), .val (.int p2), .val (.int p3), .val (.int p4), .val (.int p5), .val (.int p6), .val (.int (3 : Int32)), .val (.int f0), .val (.int f1), .val (.int f2), .val (.ref b84), .val (.ref b85), .unset, .unset, .unset, .unset, .unset] [(.int (f0 + f1))])) _
      refine XS.iload X97.here hx rfl (hb hby at_118) rfl ?_
      show Steps p.tables e below (T97.setTop (mkF m 120 #[.val (.int p1), .val (.int p2), .val (.int p3), .val (.int p4), .val (.int p5), .val (.int p6), .val (.int (3 : Int32)), .val (.int f0), .val (.int f1), .val (.int f2), .val (.ref b84), .val (.ref b85), .unset, .unset, .unset, .unset, .unset] [(.int f2), (.int (f0 + f1))])) _
      refine XS.goto X97.here hx rfl (pc0 := 120) (pc' := 124) rfl (hb hby at_120) (by decide) (by decide) ?_
      show Steps p.tables e below (T97.setTop (mkF m 124 #[.val (.int p1), .val (.int p2), .val (.int p3), .val (.int p4), .val (.int p5), .val (.int p6), .val (.int (3 : Int32)), .val (.int f0), .val (.int f1), .val (.int f2), .val (.ref b84), .val (.ref b85), .unset, .unset, .unset, .unset, .unset] [(.int f2), (.int (f0 + f1))])) _
      refine XS.iadd X97.here hx rfl (hb hby at_124) rfl ?_
      exact k)
    obtain ⟨tot, h_tot⟩ : ∃ z : Int32, z = ((f0 + f1) + f2) := ⟨_, rfl⟩
    rw [← h_tot] at pre98
    rw [← h_tot] at htot
    have pre99 : ∀ t, Steps p.tables e below (T97.setTop (mkF m 131 #[.val (.int p1), .val (.int p2), .val (.int p3), .val (.int p4), .val (.int p5), .val (.int p6), .val (.int (3 : Int32)), .val (.int f0), .val (.int f1), .val (.int f2), .val (.ref b84), .val (.ref b85), .val (.int tot), .unset, .unset, .unset, .unset] [(.int (p6 &&& (1 : Int32)))])) t → Steps p.tables e below (s₁.setTop (entryFrame m #[(.int p1), (.int p2), (.int p3), (.int p4), (.int p5), (.int p6)] maxLocals)) t := fun t k => pre98 t (by
      show Steps p.tables e below (T97.setTop (mkF m 125 #[.val (.int p1), .val (.int p2), .val (.int p3), .val (.int p4), .val (.int p5), .val (.int p6), .val (.int (3 : Int32)), .val (.int f0), .val (.int f1), .val (.int f2), .val (.ref b84), .val (.ref b85), .unset, .unset, .unset, .unset, .unset] [(.int tot)])) _
      refine XS.istore X97.here hx rfl (hb hby at_125) rfl (l' := #[.val (.int p1), .val (.int p2), .val (.int p3), .val (.int p4), .val (.int p5), .val (.int p6), .val (.int (3 : Int32)), .val (.int f0), .val (.int f1), .val (.int f2), .val (.ref b84), .val (.ref b85), .val (.int tot), .unset, .unset, .unset, .unset]) rfl ?_
      show Steps p.tables e below (T97.setTop (mkF m 127 #[.val (.int p1), .val (.int p2), .val (.int p3), .val (.int p4), .val (.int p5), .val (.int p6), .val (.int (3 : Int32)), .val (.int f0), .val (.int f1), .val (.int f2), .val (.ref b84), .val (.ref b85), .val (.int tot), .unset, .unset, .unset, .unset] [])) _
      refine XS.iload X97.here hx rfl (hb hby at_127) rfl ?_
      show Steps p.tables e below (T97.setTop (mkF m 129 #[.val (.int p1), .val (.int p2), .val (.int p3), .val (.int p4), .val (.int p5), .val (.int p6), .val (.int (3 : Int32)), .val (.int f0), .val (.int f1), .val (.int f2), .val (.ref b84), .val (.ref b85), .val (.int tot), .unset, .unset, .unset, .unset] [(.int p6)])) _
      refine XS.iconst X97.here hx rfl (hb hby at_129) ?_
      show Steps p.tables e below (T97.setTop (mkF m 130 #[.val (.int p1), .val (.int p2), .val (.int p3), .val (.int p4), .val (.int p5), .val (.int p6), .val (.int (3 : Int32)), .val (.int f0), .val (.int f1), .val (.int f2), .val (.ref b84), .val (.ref b85), .val (.int tot), .unset, .unset, .unset, .unset] [(.int (1 : Int32)), (.int p6)])) _
      refine XS.iand X97.here hx rfl (hb hby at_130) rfl ?_
      exact k)
    rcases hp2 with hp | hp
    · obtain ⟨T100, h100, X100, e100, E100, A100, D100, -, st100⟩ := newO X97 hx hZ hown (hw _ (List.mem_of_getElem? (i := 1) rfl)) (hw _ (List.mem_of_getElem? (i := 2) rfl)) (hw _ (List.mem_of_getElem? (i := 3) rfl)) e97 (g := (mkF m 181 #[.val (.int p1), .val (.int p2), .val (.int p3), .val (.int p4), .val (.int p5), .val (.int p6), .val (.int (3 : Int32)), .val (.int f0), .val (.int f1), .val (.int f2), .val (.ref b84), .val (.ref b85), .val (.int tot), .val (.int (0 : Int32)), .val .null, .unset, .unset] [])) rfl (hb hby at_181) (by decide) (by decide)
      obtain ⟨b100, g100⟩ : ∃ z, z = h97.size := ⟨_, rfl⟩
      rw [← g100] at A100 D100 st100
      have ne_b84_b100 : b84 ≠ b100 := Nat.ne_of_lt (Nat.lt_of_lt_of_le (V97_0).lt (Nat.le_of_eq g100.symm))
      have ne_b85_b100 : b85 ≠ b100 := Nat.ne_of_lt (Nat.lt_of_lt_of_le (V_b85_97).lt (Nat.le_of_eq g100.symm))
      have g_b100 : n0 ≤ b100 := Nat.le_trans z97 (Nat.le_of_eq g100.symm)
      have V100_0 := V97_0.ext E100
      have V100_1 := V_b85_97.ext E100
      have z100 : n0 ≤ h100.size := Nat.le_trans z97 E100.1
      have F_documents_b100 : Fld Z h100 b100 "com/example/cranfield/cranfield/index/Postings" "documents" "[I" .null := D100 (Or.inr (hw _ (List.mem_of_getElem? (i := 11) rfl))) (ty := (.array .int)) (by decide)
      have F_frequencies_b100 : Fld Z h100 b100 "com/example/cranfield/cranfield/index/Postings" "frequencies" "[I" .null := D100 (Or.inr (hw _ (List.mem_of_getElem? (i := 13) rfl))) (ty := (.array .int)) (by decide)
      have F_positions_b100 : Fld Z h100 b100 "com/example/cranfield/cranfield/index/Postings" "positions" "[I" .null := D100 (Or.inr (hw _ (List.mem_of_getElem? (i := 15) rfl))) (ty := (.array .int)) (by decide)
      have F_firstPositions_b100 : Fld Z h100 b100 "com/example/cranfield/cranfield/index/Postings" "firstPositions" "[I" .null := D100 (Or.inr (hw _ (List.mem_of_getElem? (i := 17) rfl))) (ty := (.array .int)) (by decide)
      obtain ⟨_, _, ⟨T101, L101, k101, n101⟩, -, X101, ⟨Lc101, hQ101, l101, y101, z101⟩, st101⟩ := X100.specialBack hx (y := (⟨"com/example/cranfield/cranfield/index/Postings", "<init>", "([I[I[I)V"⟩ : MethodName)) rfl hown (mvT hZ (hw _ (List.mem_of_getElem? (i := 4) rfl))) (mvT hZ (hw _ (List.mem_of_getElem? (i := 5) rfl))) (mvT hZ (hw _ (List.mem_of_getElem? (i := 6) rfl))) (by decide) (backOf (W := 1) (rmIn l Z a0 hw [] b100 b84 b85  h100 n0 z100 A100 g_b100 F_documents_b100 F_frequencies_b100 F_positions_b100 F_firstPositions_b100) hZ (hw _ (List.mem_of_getElem? (i := 6) rfl)) (hw _ (List.mem_of_getElem? (i := 3) rfl)) (by decide) (by decide)) (g := (mkF m 191 #[.val (.int p1), .val (.int p2), .val (.int p3), .val (.int p4), .val (.int p5), .val (.int p6), .val (.int (3 : Int32)), .val (.int f0), .val (.int f1), .val (.int f2), .val (.ref b84), .val (.ref b85), .val (.int tot), .val (.int (0 : Int32)), .val .null, .unset, .unset] [.null, (.ref b85), (.ref b84), (.ref b100), (.ref b100)])) rfl (by rw [hml]; rfl) (Steps.refl _) (a := b100) (argsL := [(.ref b84), (.ref b85), .null]) (rest := [(.ref b100)]) (lenOf own_pd0 rfl) rfl (by show 2 * 0 + _ ≤ _; exact Nat.le_of_eq rfl) (hb hby at_191) (fun _ _ => ⟨rfl, e100, (by decide : 3 + 0 ≤ _), (by decide : 10 + 0 ≤ _)⟩)
      dsimp only [Pt.U, Pt.locs, Pt.cells, Pt.slots] at X101 l101 y101 z101 st101 hQ101
      subst l101 y101 z101
      obtain ⟨h101, e101⟩ : ∃ z, T101.heap = z := ⟨_, rfl⟩
      rw [e101] at hQ101
      obtain ⟨rfl, N101q, Kc101, fp101⟩ := hQ101
      have N101 := Fr.app N97 N101q
      have X101_1577 := A100.keep Kc101
      have V101_1578 := V100_0.keep Kc101 (ninS ne_b84_b100 nin0)
      have V101_1579 := V100_1.keep Kc101 (ninS ne_b85_b100 nin0)
      have z101 : n0 ≤ h101.size := Nat.le_trans z100 Kc101.1
      obtain ⟨cq102, kq102, q102a, q102b, q102c⟩ := isOf hZ e101 X101_1577
      obtain ⟨_, _, ⟨T102, L102, k102, n102⟩, -, X102, ⟨Lc102, hQ102, l102, y102, z102⟩, st102⟩ := X101.virtualBack hx (y := (⟨"com/example/cranfield/cranfield/index/Postings", "positionCount", "()I"⟩ : MethodName)) (z := (⟨"com/example/cranfield/cranfield/index/Postings", "positionCount", "()I"⟩ : MethodName)) hown (mvT hZ (hw _ (List.mem_of_getElem? (i := 18) rfl))) (mvT hZ (hw _ (List.mem_of_getElem? (i := 19) rfl))) (notFace_of_selects (args := #[]) (mvT hZ (hw _ (List.mem_of_getElem? (i := 21) rfl)))) (mvT hZ (hw _ (List.mem_of_getElem? (i := 21) rfl))) (mvT hZ (hw _ (List.mem_of_getElem? (i := 20) rfl))) (by decide) (backOf (W := 0) (rmPn l Z a0 hw [] b100  h101 n0 z101 fp101) hZ (hw _ (List.mem_of_getElem? (i := 22) rfl)) (hw _ (List.mem_of_getElem? (i := 3) rfl)) (by decide) (by decide)) q102a q102c (g := (mkF m 198 #[.val (.int p1), .val (.int p2), .val (.int p3), .val (.int p4), .val (.int p5), .val (.int p6), .val (.int (3 : Int32)), .val (.int f0), .val (.int f1), .val (.int f2), .val (.ref b84), .val (.ref b85), .val (.int tot), .val (.int (0 : Int32)), .val .null, .val (.ref b100), .unset] [(.ref b100)])) rfl (by rw [hml]; rfl) (Steps.refl _) (argsL := []) (rest := []) (lenOf own_pd1 rfl) rfl (by show 2 * 0 + _ ≤ _; exact Nat.le_of_eq rfl) (hb hby at_198) (fun _ _ => ⟨rfl, e101, (by decide : 3 + 0 ≤ _), (by decide : 10 + 0 ≤ _)⟩)
      dsimp only [Pt.U, Pt.locs, Pt.cells, Pt.slots] at X102 l102 y102 z102 st102 hQ102
      subst l102 y102 z102
      obtain ⟨rfl, N102q, e102⟩ := hQ102
      have N102 := Fr.app N101 N102q
      obtain ⟨cq103, kq103, q103a, q103b, q103c⟩ := isOf hZ e102 X101_1577
      obtain ⟨_, _, ⟨T103, L103, k103, n103⟩, -, X103, ⟨Lc103, hQ103, l103, y103, z103⟩, st103⟩ := X102.virtualBack hx (y := (⟨"com/example/cranfield/cranfield/index/Postings", "hasPositions", "()Z"⟩ : MethodName)) (z := (⟨"com/example/cranfield/cranfield/index/Postings", "hasPositions", "()Z"⟩ : MethodName)) hown (mvT hZ (hw _ (List.mem_of_getElem? (i := 23) rfl))) (mvT hZ (hw _ (List.mem_of_getElem? (i := 24) rfl))) (notFace_of_selects (args := #[]) (mvT hZ (hw _ (List.mem_of_getElem? (i := 26) rfl)))) (mvT hZ (hw _ (List.mem_of_getElem? (i := 26) rfl))) (mvT hZ (hw _ (List.mem_of_getElem? (i := 25) rfl))) (by decide) (backOf (W := 0) (rmHn l Z a0 hw [] b100  h101 n0 z101 fp101) hZ (hw _ (List.mem_of_getElem? (i := 27) rfl)) (hw _ (List.mem_of_getElem? (i := 3) rfl)) (by decide) (by decide)) q103a q103c (g := (mkF m 205 #[.val (.int p1), .val (.int p2), .val (.int p3), .val (.int p4), .val (.int p5), .val (.int p6), .val (.int (3 : Int32)), .val (.int f0), .val (.int f1), .val (.int f2), .val (.ref b84), .val (.ref b85), .val (.int tot), .val (.int (0 : Int32)), .val .null, .val (.ref b100), .val (.int (0 : Int32))] [(.ref b100)])) rfl (by rw [hml]; rfl) (Steps.refl _) (argsL := []) (rest := []) (lenOf own_pd2 rfl) rfl (by show 2 * 0 + _ ≤ _; exact Nat.le_of_eq rfl) (hb hby at_205) (fun _ _ => ⟨rfl, e102, (by decide : 3 + 0 ≤ _), (by decide : 10 + 0 ≤ _)⟩)
      dsimp only [Pt.U, Pt.locs, Pt.cells, Pt.slots] at X103 l103 y103 z103 st103 hQ103
      subst l103 y103 z103
      obtain ⟨rfl, N103q, e103⟩ := hQ103
      have N103 := Fr.app N102 N103q
      have pre104 : ∀ t, Steps p.tables e below (T103.setTop (mkF m 243 #[.val (.int p1), .val (.int p2), .val (.int p3), .val (.int p4), .val (.int p5), .val (.int p6), .val (.int (3 : Int32)), .val (.int f0), .val (.int f1), .val (.int f2), .val (.ref b84), .val (.ref b85), .val (.int tot), .val (.int (0 : Int32)), .val .null, .val (.ref b100), .val (.int (0 : Int32))] [(.int (1 : Int32))])) t → Steps p.tables e below (s₁.setTop (entryFrame m #[(.int p1), (.int p2), (.int p3), (.int p4), (.int p5), (.int p6)] maxLocals)) t := fun t k => pre99 t (by
        show Steps p.tables e below (T97.setTop (mkF m 131 #[.val (.int p1), .val (.int p2), .val (.int p3), .val (.int p4), .val (.int p5), .val (.int p6), .val (.int (3 : Int32)), .val (.int f0), .val (.int f1), .val (.int f2), .val (.ref b84), .val (.ref b85), .val (.int tot), .unset, .unset, .unset, .unset] [(.int (p6 &&& (1 : Int32)))])) _
        refine XS.ifYes X97.here hx rfl (pc0 := 131) (pc' := 138) rfl (hb hby at_131) rfl ((if0 _ _).trans (teq (hp : (p6 &&& (1 : Int32)) = (0 : Int32))).1) (by decide) (by decide) ?_
        show Steps p.tables e below (T97.setTop (mkF m 138 #[.val (.int p1), .val (.int p2), .val (.int p3), .val (.int p4), .val (.int p5), .val (.int p6), .val (.int (3 : Int32)), .val (.int f0), .val (.int f1), .val (.int f2), .val (.ref b84), .val (.ref b85), .val (.int tot), .unset, .unset, .unset, .unset] [])) _
        refine XS.iconst X97.here hx rfl (hb hby at_138) ?_
        show Steps p.tables e below (T97.setTop (mkF m 139 #[.val (.int p1), .val (.int p2), .val (.int p3), .val (.int p4), .val (.int p5), .val (.int p6), .val (.int (3 : Int32)), .val (.int f0), .val (.int f1), .val (.int f2), .val (.ref b84), .val (.ref b85), .val (.int tot), .unset, .unset, .unset, .unset] [(.int (0 : Int32))])) _
        refine XS.istore X97.here hx rfl (hb hby at_139) rfl (l' := #[.val (.int p1), .val (.int p2), .val (.int p3), .val (.int p4), .val (.int p5), .val (.int p6), .val (.int (3 : Int32)), .val (.int f0), .val (.int f1), .val (.int f2), .val (.ref b84), .val (.ref b85), .val (.int tot), .val (.int (0 : Int32)), .unset, .unset, .unset]) rfl ?_
        show Steps p.tables e below (T97.setTop (mkF m 141 #[.val (.int p1), .val (.int p2), .val (.int p3), .val (.int p4), .val (.int p5), .val (.int p6), .val (.int (3 : Int32)), .val (.int f0), .val (.int f1), .val (.int f2), .val (.ref b84), .val (.ref b85), .val (.int tot), .val (.int (0 : Int32)), .unset, .unset, .unset] [])) _
        refine XS.aconstNull X97.here hx rfl (hb hby at_141) ?_
        show Steps p.tables e below (T97.setTop (mkF m 142 #[.val (.int p1), .val (.int p2), .val (.int p3), .val (.int p4), .val (.int p5), .val (.int p6), .val (.int (3 : Int32)), .val (.int f0), .val (.int f1), .val (.int f2), .val (.ref b84), .val (.ref b85), .val (.int tot), .val (.int (0 : Int32)), .unset, .unset, .unset] [.null])) _
        refine XS.astore X97.here hx rfl (hb hby at_142) rfl rfl (l' := #[.val (.int p1), .val (.int p2), .val (.int p3), .val (.int p4), .val (.int p5), .val (.int p6), .val (.int (3 : Int32)), .val (.int f0), .val (.int f1), .val (.int f2), .val (.ref b84), .val (.ref b85), .val (.int tot), .val (.int (0 : Int32)), .val .null, .unset, .unset]) rfl ?_
        show Steps p.tables e below (T97.setTop (mkF m 144 #[.val (.int p1), .val (.int p2), .val (.int p3), .val (.int p4), .val (.int p5), .val (.int p6), .val (.int (3 : Int32)), .val (.int f0), .val (.int f1), .val (.int f2), .val (.ref b84), .val (.ref b85), .val (.int tot), .val (.int (0 : Int32)), .val .null, .unset, .unset] [])) _
        refine XS.iload X97.here hx rfl (hb hby at_144) rfl ?_
        show Steps p.tables e below (T97.setTop (mkF m 146 #[.val (.int p1), .val (.int p2), .val (.int p3), .val (.int p4), .val (.int p5), .val (.int p6), .val (.int (3 : Int32)), .val (.int f0), .val (.int f1), .val (.int f2), .val (.ref b84), .val (.ref b85), .val (.int tot), .val (.int (0 : Int32)), .val .null, .unset, .unset] [(.int (0 : Int32))])) _
        refine XS.ifYes X97.here hx rfl (pc0 := 146) (pc' := 181) rfl (hb hby at_146) rfl ((if0 _ _).trans (teq ((by decide) : (0 : Int32) = (0 : Int32))).1) (by decide) (by decide) ?_
        show Steps p.tables e below (T97.setTop (mkF m 181 #[.val (.int p1), .val (.int p2), .val (.int p3), .val (.int p4), .val (.int p5), .val (.int p6), .val (.int (3 : Int32)), .val (.int f0), .val (.int f1), .val (.int f2), .val (.ref b84), .val (.ref b85), .val (.int tot), .val (.int (0 : Int32)), .val .null, .unset, .unset] [])) _
        refine st100 _ ?_
        show Steps p.tables e below (T100.setTop (mkF m 184 #[.val (.int p1), .val (.int p2), .val (.int p3), .val (.int p4), .val (.int p5), .val (.int p6), .val (.int (3 : Int32)), .val (.int f0), .val (.int f1), .val (.int f2), .val (.ref b84), .val (.ref b85), .val (.int tot), .val (.int (0 : Int32)), .val .null, .unset, .unset] [(.ref b100)])) _
        refine XS.dup X100.here hx rfl (hb hby at_184) rfl rfl ?_
        show Steps p.tables e below (T100.setTop (mkF m 185 #[.val (.int p1), .val (.int p2), .val (.int p3), .val (.int p4), .val (.int p5), .val (.int p6), .val (.int (3 : Int32)), .val (.int f0), .val (.int f1), .val (.int f2), .val (.ref b84), .val (.ref b85), .val (.int tot), .val (.int (0 : Int32)), .val .null, .unset, .unset] [(.ref b100), (.ref b100)])) _
        refine XS.aload X100.here hx rfl (hb hby at_185) rfl rfl ?_
        show Steps p.tables e below (T100.setTop (mkF m 187 #[.val (.int p1), .val (.int p2), .val (.int p3), .val (.int p4), .val (.int p5), .val (.int p6), .val (.int (3 : Int32)), .val (.int f0), .val (.int f1), .val (.int f2), .val (.ref b84), .val (.ref b85), .val (.int tot), .val (.int (0 : Int32)), .val .null, .unset, .unset] [(.ref b84), (.ref b100), (.ref b100)])) _
        refine XS.aload X100.here hx rfl (hb hby at_187) rfl rfl ?_
        show Steps p.tables e below (T100.setTop (mkF m 189 #[.val (.int p1), .val (.int p2), .val (.int p3), .val (.int p4), .val (.int p5), .val (.int p6), .val (.int (3 : Int32)), .val (.int f0), .val (.int f1), .val (.int f2), .val (.ref b84), .val (.ref b85), .val (.int tot), .val (.int (0 : Int32)), .val .null, .unset, .unset] [(.ref b85), (.ref b84), (.ref b100), (.ref b100)])) _
        refine XS.aload X100.here hx rfl (hb hby at_189) rfl rfl ?_
        show Steps p.tables e below (T100.setTop (mkF m 191 #[.val (.int p1), .val (.int p2), .val (.int p3), .val (.int p4), .val (.int p5), .val (.int p6), .val (.int (3 : Int32)), .val (.int f0), .val (.int f1), .val (.int f2), .val (.ref b84), .val (.ref b85), .val (.int tot), .val (.int (0 : Int32)), .val .null, .unset, .unset] [.null, (.ref b85), (.ref b84), (.ref b100), (.ref b100)])) _
        refine st101.trans ?_
        show Steps p.tables e below (T101.setTop (mkF m 194 #[.val (.int p1), .val (.int p2), .val (.int p3), .val (.int p4), .val (.int p5), .val (.int p6), .val (.int (3 : Int32)), .val (.int f0), .val (.int f1), .val (.int f2), .val (.ref b84), .val (.ref b85), .val (.int tot), .val (.int (0 : Int32)), .val .null, .unset, .unset] [(.ref b100)])) _
        refine XS.astore X101.here hx rfl (hb hby at_194) rfl rfl (l' := #[.val (.int p1), .val (.int p2), .val (.int p3), .val (.int p4), .val (.int p5), .val (.int p6), .val (.int (3 : Int32)), .val (.int f0), .val (.int f1), .val (.int f2), .val (.ref b84), .val (.ref b85), .val (.int tot), .val (.int (0 : Int32)), .val .null, .val (.ref b100), .unset]) rfl ?_
        show Steps p.tables e below (T101.setTop (mkF m 196 #[.val (.int p1), .val (.int p2), .val (.int p3), .val (.int p4), .val (.int p5), .val (.int p6), .val (.int (3 : Int32)), .val (.int f0), .val (.int f1), .val (.int f2), .val (.ref b84), .val (.ref b85), .val (.int tot), .val (.int (0 : Int32)), .val .null, .val (.ref b100), .unset] [])) _
        refine XS.aload X101.here hx rfl (hb hby at_196) rfl rfl ?_
        show Steps p.tables e below (T101.setTop (mkF m 198 #[.val (.int p1), .val (.int p2), .val (.int p3), .val (.int p4), .val (.int p5), .val (.int p6), .val (.int (3 : Int32)), .val (.int f0), .val (.int f1), .val (.int f2), .val (.ref b84), .val (.ref b85), .val (.int tot), .val (.int (0 : Int32)), .val .null, .val (.ref b100), .unset] [(.ref b100)])) _
        refine st102.trans ?_
        show Steps p.tables e below (T102.setTop (mkF m 201 #[.val (.int p1), .val (.int p2), .val (.int p3), .val (.int p4), .val (.int p5), .val (.int p6), .val (.int (3 : Int32)), .val (.int f0), .val (.int f1), .val (.int f2), .val (.ref b84), .val (.ref b85), .val (.int tot), .val (.int (0 : Int32)), .val .null, .val (.ref b100), .unset] [(.int (0 : Int32))])) _
        refine XS.istore X102.here hx rfl (hb hby at_201) rfl (l' := #[.val (.int p1), .val (.int p2), .val (.int p3), .val (.int p4), .val (.int p5), .val (.int p6), .val (.int (3 : Int32)), .val (.int f0), .val (.int f1), .val (.int f2), .val (.ref b84), .val (.ref b85), .val (.int tot), .val (.int (0 : Int32)), .val .null, .val (.ref b100), .val (.int (0 : Int32))]) rfl ?_
        show Steps p.tables e below (T102.setTop (mkF m 203 #[.val (.int p1), .val (.int p2), .val (.int p3), .val (.int p4), .val (.int p5), .val (.int p6), .val (.int (3 : Int32)), .val (.int f0), .val (.int f1), .val (.int f2), .val (.ref b84), .val (.ref b85), .val (.int tot), .val (.int (0 : Int32)), .val .null, .val (.ref b100), .val (.int (0 : Int32))] [])) _
        refine XS.aload X102.here hx rfl (hb hby at_203) rfl rfl ?_
        show Steps p.tables e below (T102.setTop (mkF m 205 #[.val (.int p1), .val (.int p2), .val (.int p3), .val (.int p4), .val (.int p5), .val (.int p6), .val (.int (3 : Int32)), .val (.int f0), .val (.int f1), .val (.int f2), .val (.ref b84), .val (.ref b85), .val (.int tot), .val (.int (0 : Int32)), .val .null, .val (.ref b100), .val (.int (0 : Int32))] [(.ref b100)])) _
        refine st103.trans ?_
        show Steps p.tables e below (T103.setTop (mkF m 208 #[.val (.int p1), .val (.int p2), .val (.int p3), .val (.int p4), .val (.int p5), .val (.int p6), .val (.int (3 : Int32)), .val (.int f0), .val (.int f1), .val (.int f2), .val (.ref b84), .val (.ref b85), .val (.int tot), .val (.int (0 : Int32)), .val .null, .val (.ref b100), .val (.int (0 : Int32))] [(.int (0 : Int32))])) _
        refine XS.iload X103.here hx rfl (hb hby at_208) rfl ?_
        show Steps p.tables e below (T103.setTop (mkF m 210 #[.val (.int p1), .val (.int p2), .val (.int p3), .val (.int p4), .val (.int p5), .val (.int p6), .val (.int (3 : Int32)), .val (.int f0), .val (.int f1), .val (.int f2), .val (.ref b84), .val (.ref b85), .val (.int tot), .val (.int (0 : Int32)), .val .null, .val (.ref b100), .val (.int (0 : Int32))] [(.int (0 : Int32)), (.int (0 : Int32))])) _
        refine XS.icmpYes X103.here hx rfl (pc0 := 210) (pc' := 215) rfl (hb hby at_210) rfl (teq ((by decide) : (0 : Int32) = (0 : Int32))).1 (by decide) (by decide) ?_
        show Steps p.tables e below (T103.setTop (mkF m 215 #[.val (.int p1), .val (.int p2), .val (.int p3), .val (.int p4), .val (.int p5), .val (.int p6), .val (.int (3 : Int32)), .val (.int f0), .val (.int f1), .val (.int f2), .val (.ref b84), .val (.ref b85), .val (.int tot), .val (.int (0 : Int32)), .val .null, .val (.ref b100), .val (.int (0 : Int32))] [])) _
        refine XS.iload X103.here hx rfl (hb hby at_215) rfl ?_
        show Steps p.tables e below (T103.setTop (mkF m 217 #[.val (.int p1), .val (.int p2), .val (.int p3), .val (.int p4), .val (.int p5), .val (.int p6), .val (.int (3 : Int32)), .val (.int f0), .val (.int f1), .val (.int f2), .val (.ref b84), .val (.ref b85), .val (.int tot), .val (.int (0 : Int32)), .val .null, .val (.ref b100), .val (.int (0 : Int32))] [(.int (0 : Int32))])) _
        refine XS.ifYes X103.here hx rfl (pc0 := 217) (pc' := 233) rfl (hb hby at_217) rfl ((if0 _ _).trans (teq ((by decide) : (0 : Int32) = (0 : Int32))).1) (by decide) (by decide) ?_
        show Steps p.tables e below (T103.setTop (mkF m 233 #[.val (.int p1), .val (.int p2), .val (.int p3), .val (.int p4), .val (.int p5), .val (.int p6), .val (.int (3 : Int32)), .val (.int f0), .val (.int f1), .val (.int f2), .val (.ref b84), .val (.ref b85), .val (.int tot), .val (.int (0 : Int32)), .val .null, .val (.ref b100), .val (.int (0 : Int32))] [])) _
        refine XS.iload X103.here hx rfl (hb hby at_233) rfl ?_
        show Steps p.tables e below (T103.setTop (mkF m 235 #[.val (.int p1), .val (.int p2), .val (.int p3), .val (.int p4), .val (.int p5), .val (.int p6), .val (.int (3 : Int32)), .val (.int f0), .val (.int f1), .val (.int f2), .val (.ref b84), .val (.ref b85), .val (.int tot), .val (.int (0 : Int32)), .val .null, .val (.ref b100), .val (.int (0 : Int32))] [(.int (0 : Int32))])) _
        refine XS.ifNo X103.here hx rfl (hb hby at_235) rfl ((if0 _ _).trans (teq ((by decide) : (0 : Int32) = (0 : Int32))).2) ?_
        show Steps p.tables e below (T103.setTop (mkF m 238 #[.val (.int p1), .val (.int p2), .val (.int p3), .val (.int p4), .val (.int p5), .val (.int p6), .val (.int (3 : Int32)), .val (.int f0), .val (.int f1), .val (.int f2), .val (.ref b84), .val (.ref b85), .val (.int tot), .val (.int (0 : Int32)), .val .null, .val (.ref b100), .val (.int (0 : Int32))] [])) _
        refine XS.iconst X103.here hx rfl (hb hby at_238) ?_
        show Steps p.tables e below (T103.setTop (mkF m 239 #[.val (.int p1), .val (.int p2), .val (.int p3), .val (.int p4), .val (.int p5), .val (.int p6), .val (.int (3 : Int32)), .val (.int f0), .val (.int f1), .val (.int f2), .val (.ref b84), .val (.ref b85), .val (.int tot), .val (.int (0 : Int32)), .val .null, .val (.ref b100), .val (.int (0 : Int32))] [(.int (1 : Int32))])) _
        refine XS.goto X103.here hx rfl (pc0 := 239) (pc' := 243) rfl (hb hby at_239) (by decide) (by decide) ?_
        exact k)
      obtain ⟨fs, hr, hrun, hended, hW, hsame⟩ := X103.leave (v := some (.int (nar .boolean (1 : Int32)))) (fun h => by rw [Bd.returns] at h; cases h)
      refine ⟨_, _, pre104 _ ?_, hrun, hended, _, _, rfl, ?_, ⟨_, rfl⟩, hW, hsame.mono (by decide) (by decide)⟩
      · show Steps p.tables e below (T103.setTop (mkF m 243 #[.val (.int p1), .val (.int p2), .val (.int p3), .val (.int p4), .val (.int p5), .val (.int p6), .val (.int (3 : Int32)), .val (.int f0), .val (.int f1), .val (.int f2), .val (.ref b84), .val (.ref b85), .val (.int tot), .val (.int (0 : Int32)), .val .null, .val (.ref b100), .val (.int (0 : Int32))] [(.int (1 : Int32))])) _
        exact retN X103 hx (t := .boolean) Bd.returns (by simp) (hb hby at_243) hr
      · show QL n0 _ T103.heap _
        rw [e103]
        exact ⟨rfl, N103⟩
    · obtain ⟨T105, h105, k105, X105, e105, E105, A105, st105⟩ := newP X97 hx hZ (hw _ (List.mem_of_getElem? (i := 0) rfl)) e97 (g := (mkF m 151 #[.val (.int p1), .val (.int p2), .val (.int p3), .val (.int p4), .val (.int p5), .val (.int p6), .val (.int (3 : Int32)), .val (.int f0), .val (.int f1), .val (.int f2), .val (.ref b84), .val (.ref b85), .val (.int tot), .val (.int (1 : Int32)), .val .null, .unset, .unset] [(.int tot)])) rfl (hb hby at_151) rfl (own_tneg htot) (cap := 12) (own_tcap htot) (by decide) (by decide) (by decide)
      obtain ⟨b105, g105⟩ : ∃ z, z = h97.size := ⟨_, rfl⟩
      rw [← g105] at A105 st105
      have ne_b84_b105 : b84 ≠ b105 := Nat.ne_of_lt (Nat.lt_of_lt_of_le (V97_0).lt (Nat.le_of_eq g105.symm))
      have ne_b85_b105 : b85 ≠ b105 := Nat.ne_of_lt (Nat.lt_of_lt_of_le (V_b85_97).lt (Nat.le_of_eq g105.symm))
      have g_b105 : n0 ≤ b105 := Nat.le_trans z97 (Nat.le_of_eq g105.symm)
      have V105_0 := V97_0.ext E105
      have V105_1 := V_b85_97.ext E105
      have z105 : n0 ≤ h105.size := Nat.le_trans z97 E105.1
      have V_b105 : Arv Z h105 b105 k105 .int tot [(.int (0 : Int32))] (.int (0 : Int32)) := (Arv.new A105 (own_tneg htot)).pad (pad_rep [] (.int (0 : Int32)) 1)
      obtain ⟨cl106, Ar106, q106, S106, M106, H106, G106⟩ := id V_b105
      have hin106 : ¬ ((0 : Int32) < 0 ∨ cl106.slots.size ≤ ((0 : Int32)).toNatClampNeg) := inb_of S106 ⟨by decide, own_tpos htot⟩
      obtain ⟨T107, h107, X107, e107, W107, st107⟩ := stI X105 hx hZ e105 Ar106 (j := (0 : Int32)) hin106 (g := (mkF m 165 #[.val (.int p1), .val (.int p2), .val (.int p3), .val (.int p4), .val (.int p5), .val (.int p6), .val (.int (3 : Int32)), .val (.int f0), .val (.int f1), .val (.int f2), .val (.ref b84), .val (.ref b85), .val (.int tot), .val (.int (1 : Int32)), .val (.ref b105), .unset, .unset] [(.int p5), (.int (0 : Int32)), (.ref b105)])) rfl rfl (hb hby at_165)
      have V_b105_107 : Arv Z h107 b105 k105 .int tot [(.int p5)] (.int (0 : Int32)) := Arv.set Ar106 q106 S106 M106 H106 G106 rfl W107 0 rfl (Nat.le_of_ble_eq_true rfl)
      have V107_0 := V105_0.other W107 ne_b84_b105
      have V107_1 := V105_1.other W107 ne_b85_b105
      have z107 : n0 ≤ h107.size := by rw [W107.size]; exact z105
      have N107 := Fr.snoc X107 N97 g_b105
      have pre108 : ∀ t, Steps p.tables e below (T107.setTop (mkF m 169 #[.val (.int p1), .val (.int p2), .val (.int p3), .val (.int p4), .val (.int p5), .val (.int p6), .val (.int (3 : Int32)), .val (.int f0), .val (.int f1), .val (.int f2), .val (.ref b84), .val (.ref b85), .val (.int tot), .val (.int (1 : Int32)), .val (.ref b105), .unset, .unset] [(.int (1 : Int32)), (.int tot)])) t → Steps p.tables e below (s₁.setTop (entryFrame m #[(.int p1), (.int p2), (.int p3), (.int p4), (.int p5), (.int p6)] maxLocals)) t := fun t k => pre99 t (by
        show Steps p.tables e below (T97.setTop (mkF m 131 #[.val (.int p1), .val (.int p2), .val (.int p3), .val (.int p4), .val (.int p5), .val (.int p6), .val (.int (3 : Int32)), .val (.int f0), .val (.int f1), .val (.int f2), .val (.ref b84), .val (.ref b85), .val (.int tot), .unset, .unset, .unset, .unset] [(.int (p6 &&& (1 : Int32)))])) _
        refine XS.ifNo X97.here hx rfl (hb hby at_131) rfl ((if0 _ _).trans (feq ((own_ne0 hp) : ¬ ((p6 &&& (1 : Int32)) = (0 : Int32)))).1) ?_
        show Steps p.tables e below (T97.setTop (mkF m 134 #[.val (.int p1), .val (.int p2), .val (.int p3), .val (.int p4), .val (.int p5), .val (.int p6), .val (.int (3 : Int32)), .val (.int f0), .val (.int f1), .val (.int f2), .val (.ref b84), .val (.ref b85), .val (.int tot), .unset, .unset, .unset, .unset] [])) _
        refine XS.iconst X97.here hx rfl (hb hby at_134) ?_
        show Steps p.tables e below (T97.setTop (mkF m 135 #[.val (.int p1), .val (.int p2), .val (.int p3), .val (.int p4), .val (.int p5), .val (.int p6), .val (.int (3 : Int32)), .val (.int f0), .val (.int f1), .val (.int f2), .val (.ref b84), .val (.ref b85), .val (.int tot), .unset, .unset, .unset, .unset] [(.int (1 : Int32))])) _
        refine XS.goto X97.here hx rfl (pc0 := 135) (pc' := 139) rfl (hb hby at_135) (by decide) (by decide) ?_
        show Steps p.tables e below (T97.setTop (mkF m 139 #[.val (.int p1), .val (.int p2), .val (.int p3), .val (.int p4), .val (.int p5), .val (.int p6), .val (.int (3 : Int32)), .val (.int f0), .val (.int f1), .val (.int f2), .val (.ref b84), .val (.ref b85), .val (.int tot), .unset, .unset, .unset, .unset] [(.int (1 : Int32))])) _
        refine XS.istore X97.here hx rfl (hb hby at_139) rfl (l' := #[.val (.int p1), .val (.int p2), .val (.int p3), .val (.int p4), .val (.int p5), .val (.int p6), .val (.int (3 : Int32)), .val (.int f0), .val (.int f1), .val (.int f2), .val (.ref b84), .val (.ref b85), .val (.int tot), .val (.int (1 : Int32)), .unset, .unset, .unset]) rfl ?_
        show Steps p.tables e below (T97.setTop (mkF m 141 #[.val (.int p1), .val (.int p2), .val (.int p3), .val (.int p4), .val (.int p5), .val (.int p6), .val (.int (3 : Int32)), .val (.int f0), .val (.int f1), .val (.int f2), .val (.ref b84), .val (.ref b85), .val (.int tot), .val (.int (1 : Int32)), .unset, .unset, .unset] [])) _
        refine XS.aconstNull X97.here hx rfl (hb hby at_141) ?_
        show Steps p.tables e below (T97.setTop (mkF m 142 #[.val (.int p1), .val (.int p2), .val (.int p3), .val (.int p4), .val (.int p5), .val (.int p6), .val (.int (3 : Int32)), .val (.int f0), .val (.int f1), .val (.int f2), .val (.ref b84), .val (.ref b85), .val (.int tot), .val (.int (1 : Int32)), .unset, .unset, .unset] [.null])) _
        refine XS.astore X97.here hx rfl (hb hby at_142) rfl rfl (l' := #[.val (.int p1), .val (.int p2), .val (.int p3), .val (.int p4), .val (.int p5), .val (.int p6), .val (.int (3 : Int32)), .val (.int f0), .val (.int f1), .val (.int f2), .val (.ref b84), .val (.ref b85), .val (.int tot), .val (.int (1 : Int32)), .val .null, .unset, .unset]) rfl ?_
        show Steps p.tables e below (T97.setTop (mkF m 144 #[.val (.int p1), .val (.int p2), .val (.int p3), .val (.int p4), .val (.int p5), .val (.int p6), .val (.int (3 : Int32)), .val (.int f0), .val (.int f1), .val (.int f2), .val (.ref b84), .val (.ref b85), .val (.int tot), .val (.int (1 : Int32)), .val .null, .unset, .unset] [])) _
        refine XS.iload X97.here hx rfl (hb hby at_144) rfl ?_
        show Steps p.tables e below (T97.setTop (mkF m 146 #[.val (.int p1), .val (.int p2), .val (.int p3), .val (.int p4), .val (.int p5), .val (.int p6), .val (.int (3 : Int32)), .val (.int f0), .val (.int f1), .val (.int f2), .val (.ref b84), .val (.ref b85), .val (.int tot), .val (.int (1 : Int32)), .val .null, .unset, .unset] [(.int (1 : Int32))])) _
        refine XS.ifNo X97.here hx rfl (hb hby at_146) rfl ((if0 _ _).trans (feq ((by decide) : ¬ ((1 : Int32) = (0 : Int32)))).1) ?_
        show Steps p.tables e below (T97.setTop (mkF m 149 #[.val (.int p1), .val (.int p2), .val (.int p3), .val (.int p4), .val (.int p5), .val (.int p6), .val (.int (3 : Int32)), .val (.int f0), .val (.int f1), .val (.int f2), .val (.ref b84), .val (.ref b85), .val (.int tot), .val (.int (1 : Int32)), .val .null, .unset, .unset] [])) _
        refine XS.iload X97.here hx rfl (hb hby at_149) rfl ?_
        show Steps p.tables e below (T97.setTop (mkF m 151 #[.val (.int p1), .val (.int p2), .val (.int p3), .val (.int p4), .val (.int p5), .val (.int p6), .val (.int (3 : Int32)), .val (.int f0), .val (.int f1), .val (.int f2), .val (.ref b84), .val (.ref b85), .val (.int tot), .val (.int (1 : Int32)), .val .null, .unset, .unset] [(.int tot)])) _
        refine st105 _ ?_
        show Steps p.tables e below (T105.setTop (mkF m 153 #[.val (.int p1), .val (.int p2), .val (.int p3), .val (.int p4), .val (.int p5), .val (.int p6), .val (.int (3 : Int32)), .val (.int f0), .val (.int f1), .val (.int f2), .val (.ref b84), .val (.ref b85), .val (.int tot), .val (.int (1 : Int32)), .val .null, .unset, .unset] [(.ref b105)])) _
        refine XS.astore X105.here hx rfl (hb hby at_153) rfl rfl (l' := #[.val (.int p1), .val (.int p2), .val (.int p3), .val (.int p4), .val (.int p5), .val (.int p6), .val (.int (3 : Int32)), .val (.int f0), .val (.int f1), .val (.int f2), .val (.ref b84), .val (.ref b85), .val (.int tot), .val (.int (1 : Int32)), .val (.ref b105), .unset, .unset]) rfl ?_
        show Steps p.tables e below (T105.setTop (mkF m 155 #[.val (.int p1), .val (.int p2), .val (.int p3), .val (.int p4), .val (.int p5), .val (.int p6), .val (.int (3 : Int32)), .val (.int f0), .val (.int f1), .val (.int f2), .val (.ref b84), .val (.ref b85), .val (.int tot), .val (.int (1 : Int32)), .val (.ref b105), .unset, .unset] [])) _
        refine XS.iload X105.here hx rfl (hb hby at_155) rfl ?_
        show Steps p.tables e below (T105.setTop (mkF m 157 #[.val (.int p1), .val (.int p2), .val (.int p3), .val (.int p4), .val (.int p5), .val (.int p6), .val (.int (3 : Int32)), .val (.int f0), .val (.int f1), .val (.int f2), .val (.ref b84), .val (.ref b85), .val (.int tot), .val (.int (1 : Int32)), .val (.ref b105), .unset, .unset] [(.int tot)])) _
        refine XS.ifNo X105.here hx rfl (hb hby at_157) rfl ((if0 _ _).trans (tlt ((own_tpos htot) : (0 : Int32) < tot)).2.2.2) ?_
        show Steps p.tables e below (T105.setTop (mkF m 160 #[.val (.int p1), .val (.int p2), .val (.int p3), .val (.int p4), .val (.int p5), .val (.int p6), .val (.int (3 : Int32)), .val (.int f0), .val (.int f1), .val (.int f2), .val (.ref b84), .val (.ref b85), .val (.int tot), .val (.int (1 : Int32)), .val (.ref b105), .unset, .unset] [])) _
        refine XS.aload X105.here hx rfl (hb hby at_160) rfl rfl ?_
        show Steps p.tables e below (T105.setTop (mkF m 162 #[.val (.int p1), .val (.int p2), .val (.int p3), .val (.int p4), .val (.int p5), .val (.int p6), .val (.int (3 : Int32)), .val (.int f0), .val (.int f1), .val (.int f2), .val (.ref b84), .val (.ref b85), .val (.int tot), .val (.int (1 : Int32)), .val (.ref b105), .unset, .unset] [(.ref b105)])) _
        refine XS.iconst X105.here hx rfl (hb hby at_162) ?_
        show Steps p.tables e below (T105.setTop (mkF m 163 #[.val (.int p1), .val (.int p2), .val (.int p3), .val (.int p4), .val (.int p5), .val (.int p6), .val (.int (3 : Int32)), .val (.int f0), .val (.int f1), .val (.int f2), .val (.ref b84), .val (.ref b85), .val (.int tot), .val (.int (1 : Int32)), .val (.ref b105), .unset, .unset] [(.int (0 : Int32)), (.ref b105)])) _
        refine XS.iload X105.here hx rfl (hb hby at_163) rfl ?_
        show Steps p.tables e below (T105.setTop (mkF m 165 #[.val (.int p1), .val (.int p2), .val (.int p3), .val (.int p4), .val (.int p5), .val (.int p6), .val (.int (3 : Int32)), .val (.int f0), .val (.int f1), .val (.int f2), .val (.ref b84), .val (.ref b85), .val (.int tot), .val (.int (1 : Int32)), .val (.ref b105), .unset, .unset] [(.int p5), (.int (0 : Int32)), (.ref b105)])) _
        refine st107 _ ?_
        show Steps p.tables e below (T107.setTop (mkF m 166 #[.val (.int p1), .val (.int p2), .val (.int p3), .val (.int p4), .val (.int p5), .val (.int p6), .val (.int (3 : Int32)), .val (.int f0), .val (.int f1), .val (.int f2), .val (.ref b84), .val (.ref b85), .val (.int tot), .val (.int (1 : Int32)), .val (.ref b105), .unset, .unset] [])) _
        refine XS.iload X107.here hx rfl (hb hby at_166) rfl ?_
        show Steps p.tables e below (T107.setTop (mkF m 168 #[.val (.int p1), .val (.int p2), .val (.int p3), .val (.int p4), .val (.int p5), .val (.int p6), .val (.int (3 : Int32)), .val (.int f0), .val (.int f1), .val (.int f2), .val (.ref b84), .val (.ref b85), .val (.int tot), .val (.int (1 : Int32)), .val (.ref b105), .unset, .unset] [(.int tot)])) _
        refine XS.iconst X107.here hx rfl (hb hby at_168) ?_
        exact k)
      by_cases ht1 : (1 : Int32) < tot
      · obtain ⟨cl109, Ar109, q109, S109, M109, H109, G109⟩ := (V_b105_107 : Arh Z h107 b105 k105 .int tot [] [(.int p5)] (.int (0 : Int32)))
        have hin109 : ¬ ((tot - (1 : Int32)) < 0 ∨ cl109.slots.size ≤ ((tot - (1 : Int32))).toNatClampNeg) := inb_of S109 (own_tlast ht1)
        obtain ⟨T110, h110, X110, e110, W110, st110⟩ := stI X107 hx hZ e107 Ar109 (j := (tot - (1 : Int32))) hin109 (g := (mkF m 180 #[.val (.int p1), .val (.int p2), .val (.int p3), .val (.int p4), .val (.int p5), .val (.int p6), .val (.int (3 : Int32)), .val (.int f0), .val (.int f1), .val (.int f2), .val (.ref b84), .val (.ref b85), .val (.int tot), .val (.int (1 : Int32)), .val (.ref b105), .unset, .unset] [(.int p5), (.int (tot - (1 : Int32))), (.ref b105)])) rfl rfl (hb hby at_180)
        have V_b105_110 : Arh Z h110 b105 k105 .int tot [((tot - (1 : Int32)), (.int p5))] [(.int p5)] (.int (0 : Int32)) := Arh.push Ar109 q109 S109 M109 H109 G109 rfl W110 hin109
        have V110_0 := V107_0.other W110 ne_b84_b105
        have V110_1 := V107_1.other W110 ne_b85_b105
        have z110 : n0 ≤ h110.size := by rw [W110.size]; exact z107
        have N110 := Fr.snoc X110 N107 g_b105
        obtain ⟨T111, h111, X111, e111, E111, A111, D111, -, st111⟩ := newO X110 hx hZ hown (hw _ (List.mem_of_getElem? (i := 1) rfl)) (hw _ (List.mem_of_getElem? (i := 2) rfl)) (hw _ (List.mem_of_getElem? (i := 3) rfl)) e110 (g := (mkF m 181 #[.val (.int p1), .val (.int p2), .val (.int p3), .val (.int p4), .val (.int p5), .val (.int p6), .val (.int (3 : Int32)), .val (.int f0), .val (.int f1), .val (.int f2), .val (.ref b84), .val (.ref b85), .val (.int tot), .val (.int (1 : Int32)), .val (.ref b105), .unset, .unset] [])) rfl (hb hby at_181) (by decide) (by decide)
        obtain ⟨b111, g111⟩ : ∃ z, z = h110.size := ⟨_, rfl⟩
        rw [← g111] at A111 D111 st111
        have ne_b84_b111 : b84 ≠ b111 := Nat.ne_of_lt (Nat.lt_of_lt_of_le (V110_0).lt (Nat.le_of_eq g111.symm))
        have ne_b85_b111 : b85 ≠ b111 := Nat.ne_of_lt (Nat.lt_of_lt_of_le (V110_1).lt (Nat.le_of_eq g111.symm))
        have ne_b105_b111 : b105 ≠ b111 := Nat.ne_of_lt (Nat.lt_of_lt_of_le (V_b105_110).lt (Nat.le_of_eq g111.symm))
        have g_b111 : n0 ≤ b111 := Nat.le_trans z110 (Nat.le_of_eq g111.symm)
        have V111_0 := V110_0.ext E111
        have V111_1 := V110_1.ext E111
        have V111_2 := V_b105_110.ext E111
        have z111 : n0 ≤ h111.size := Nat.le_trans z110 E111.1
        have F_documents_b111 : Fld Z h111 b111 "com/example/cranfield/cranfield/index/Postings" "documents" "[I" .null := D111 (Or.inr (hw _ (List.mem_of_getElem? (i := 11) rfl))) (ty := (.array .int)) (by decide)
        have F_frequencies_b111 : Fld Z h111 b111 "com/example/cranfield/cranfield/index/Postings" "frequencies" "[I" .null := D111 (Or.inr (hw _ (List.mem_of_getElem? (i := 13) rfl))) (ty := (.array .int)) (by decide)
        have F_positions_b111 : Fld Z h111 b111 "com/example/cranfield/cranfield/index/Postings" "positions" "[I" .null := D111 (Or.inr (hw _ (List.mem_of_getElem? (i := 15) rfl))) (ty := (.array .int)) (by decide)
        have F_firstPositions_b111 : Fld Z h111 b111 "com/example/cranfield/cranfield/index/Postings" "firstPositions" "[I" .null := D111 (Or.inr (hw _ (List.mem_of_getElem? (i := 17) rfl))) (ty := (.array .int)) (by decide)
        obtain ⟨_, _, ⟨T112, L112, k112, n112⟩, -, X112, ⟨Lc112, hQ112, l112, y112, z112⟩, st112⟩ := X111.specialBack hx (y := (⟨"com/example/cranfield/cranfield/index/Postings", "<init>", "([I[I[I)V"⟩ : MethodName)) rfl hown (mvT hZ (hw _ (List.mem_of_getElem? (i := 4) rfl))) (mvT hZ (hw _ (List.mem_of_getElem? (i := 5) rfl))) (mvT hZ (hw _ (List.mem_of_getElem? (i := 6) rfl))) (by decide) (backOf (W := 1) (rmI3 l Z a0 hw [] b111 b84 b85 b105 k84 k85 f0 f1 f2 h111 n0 z111 A111 g_b111 F_documents_b111 F_frequencies_b111 F_positions_b111 F_firstPositions_b111 V111_0 V111_1 (Ne.symm ne_b84_b111) (Ne.symm ne_b85_b111)) hZ (hw _ (List.mem_of_getElem? (i := 6) rfl)) (hw _ (List.mem_of_getElem? (i := 3) rfl)) (by decide) (by decide)) (g := (mkF m 191 #[.val (.int p1), .val (.int p2), .val (.int p3), .val (.int p4), .val (.int p5), .val (.int p6), .val (.int (3 : Int32)), .val (.int f0), .val (.int f1), .val (.int f2), .val (.ref b84), .val (.ref b85), .val (.int tot), .val (.int (1 : Int32)), .val (.ref b105), .unset, .unset] [(.ref b105), (.ref b85), (.ref b84), (.ref b111), (.ref b111)])) rfl (by rw [hml]; rfl) (Steps.refl _) (a := b111) (argsL := [(.ref b84), (.ref b85), (.ref b105)]) (rest := [(.ref b111)]) (lenOf own_pd0 rfl) rfl (by show 2 * 0 + _ ≤ _; exact Nat.le_of_eq rfl) (hb hby at_191) (fun _ _ => ⟨rfl, e111, (by decide : 4 + 1 ≤ _), (by decide : 22 + 3 ≤ _)⟩)
        dsimp only [Pt.U, Pt.locs, Pt.cells, Pt.slots] at X112 l112 y112 z112 st112 hQ112
        subst l112 y112 z112
        obtain ⟨h112, e112⟩ : ∃ z, T112.heap = z := ⟨_, rfl⟩
        rw [e112] at hQ112
        obtain ⟨rfl, N112q, Kc112, fp112⟩ := hQ112
        have N112 := Fr.app N110 N112q
        have X112_1745 := A111.keep Kc112
        have V112_1746 := V111_0.keep Kc112 (ninS ne_b84_b111 nin0)
        have V112_1747 := V111_1.keep Kc112 (ninS ne_b85_b111 nin0)
        have V112_1748 := V111_2.keep Kc112 (ninS ne_b105_b111 nin0)
        have z112 : n0 ≤ h112.size := Nat.le_trans z111 Kc112.1
        obtain ⟨cq113, kq113, q113a, q113b, q113c⟩ := isOf hZ e112 X112_1745
        obtain ⟨_, _, ⟨T113, L113, k113, n113⟩, -, X113, ⟨Lc113, hQ113, l113, y113, z113⟩, st113⟩ := X112.virtualBack hx (y := (⟨"com/example/cranfield/cranfield/index/Postings", "positionCount", "()I"⟩ : MethodName)) (z := (⟨"com/example/cranfield/cranfield/index/Postings", "positionCount", "()I"⟩ : MethodName)) hown (mvT hZ (hw _ (List.mem_of_getElem? (i := 18) rfl))) (mvT hZ (hw _ (List.mem_of_getElem? (i := 19) rfl))) (notFace_of_selects (args := #[]) (mvT hZ (hw _ (List.mem_of_getElem? (i := 21) rfl)))) (mvT hZ (hw _ (List.mem_of_getElem? (i := 21) rfl))) (mvT hZ (hw _ (List.mem_of_getElem? (i := 20) rfl))) (by decide) (backOf (W := 0) (rmPr l Z a0 hw [] b111 b105 k105 tot [((tot - (1 : Int32)), (.int p5))] [(.int p5)] (.int (0 : Int32)) h112 n0 z112 fp112 V112_1748) hZ (hw _ (List.mem_of_getElem? (i := 22) rfl)) (hw _ (List.mem_of_getElem? (i := 3) rfl)) (by decide) (by decide)) q113a q113c (g := (mkF m 198 #[.val (.int p1), .val (.int p2), .val (.int p3), .val (.int p4), .val (.int p5), .val (.int p6), .val (.int (3 : Int32)), .val (.int f0), .val (.int f1), .val (.int f2), .val (.ref b84), .val (.ref b85), .val (.int tot), .val (.int (1 : Int32)), .val (.ref b105), .val (.ref b111), .unset] [(.ref b111)])) rfl (by rw [hml]; rfl) (Steps.refl _) (argsL := []) (rest := []) (lenOf own_pd1 rfl) rfl (by show 2 * 0 + _ ≤ _; exact Nat.le_of_eq rfl) (hb hby at_198) (fun _ _ => ⟨rfl, e112, (by decide : 5 + 0 ≤ _), (by decide : 25 + 0 ≤ _)⟩)
        dsimp only [Pt.U, Pt.locs, Pt.cells, Pt.slots] at X113 l113 y113 z113 st113 hQ113
        subst l113 y113 z113
        obtain ⟨rfl, N113q, e113⟩ := hQ113
        have N113 := Fr.app N112 N113q
        obtain ⟨cq114, kq114, q114a, q114b, q114c⟩ := isOf hZ e113 X112_1745
        obtain ⟨_, _, ⟨T114, L114, k114, n114⟩, -, X114, ⟨Lc114, hQ114, l114, y114, z114⟩, st114⟩ := X113.virtualBack hx (y := (⟨"com/example/cranfield/cranfield/index/Postings", "hasPositions", "()Z"⟩ : MethodName)) (z := (⟨"com/example/cranfield/cranfield/index/Postings", "hasPositions", "()Z"⟩ : MethodName)) hown (mvT hZ (hw _ (List.mem_of_getElem? (i := 23) rfl))) (mvT hZ (hw _ (List.mem_of_getElem? (i := 24) rfl))) (notFace_of_selects (args := #[]) (mvT hZ (hw _ (List.mem_of_getElem? (i := 26) rfl)))) (mvT hZ (hw _ (List.mem_of_getElem? (i := 26) rfl))) (mvT hZ (hw _ (List.mem_of_getElem? (i := 25) rfl))) (by decide) (backOf (W := 0) (rmHr l Z a0 hw [] b111 b105 h112 n0 z112 fp112) hZ (hw _ (List.mem_of_getElem? (i := 27) rfl)) (hw _ (List.mem_of_getElem? (i := 3) rfl)) (by decide) (by decide)) q114a q114c (g := (mkF m 205 #[.val (.int p1), .val (.int p2), .val (.int p3), .val (.int p4), .val (.int p5), .val (.int p6), .val (.int (3 : Int32)), .val (.int f0), .val (.int f1), .val (.int f2), .val (.ref b84), .val (.ref b85), .val (.int tot), .val (.int (1 : Int32)), .val (.ref b105), .val (.ref b111), .val (.int tot)] [(.ref b111)])) rfl (by rw [hml]; rfl) (Steps.refl _) (argsL := []) (rest := []) (lenOf own_pd2 rfl) rfl (by show 2 * 0 + _ ≤ _; exact Nat.le_of_eq rfl) (hb hby at_205) (fun _ _ => ⟨rfl, e113, (by decide : 5 + 0 ≤ _), (by decide : 25 + 0 ≤ _)⟩)
        dsimp only [Pt.U, Pt.locs, Pt.cells, Pt.slots] at X114 l114 y114 z114 st114 hQ114
        subst l114 y114 z114
        obtain ⟨rfl, N114q, e114⟩ := hQ114
        have N114 := Fr.app N113 N114q
        have pre115 : ∀ t, Steps p.tables e below (T114.setTop (mkF m 232 #[.val (.int p1), .val (.int p2), .val (.int p3), .val (.int p4), .val (.int p5), .val (.int p6), .val (.int (3 : Int32)), .val (.int f0), .val (.int f1), .val (.int f2), .val (.ref b84), .val (.ref b85), .val (.int tot), .val (.int (1 : Int32)), .val (.ref b105), .val (.ref b111), .val (.int tot)] [(.int (1 : Int32))])) t → Steps p.tables e below (s₁.setTop (entryFrame m #[(.int p1), (.int p2), (.int p3), (.int p4), (.int p5), (.int p6)] maxLocals)) t := fun t k => pre108 t (by
          show Steps p.tables e below (T107.setTop (mkF m 169 #[.val (.int p1), .val (.int p2), .val (.int p3), .val (.int p4), .val (.int p5), .val (.int p6), .val (.int (3 : Int32)), .val (.int f0), .val (.int f1), .val (.int f2), .val (.ref b84), .val (.ref b85), .val (.int tot), .val (.int (1 : Int32)), .val (.ref b105), .unset, .unset] [(.int (1 : Int32)), (.int tot)])) _
          refine XS.icmpNo X107.here hx rfl (hb hby at_169) rfl (tlt (ht1 : (1 : Int32) < tot)).2.2.2 ?_
          show Steps p.tables e below (T107.setTop (mkF m 172 #[.val (.int p1), .val (.int p2), .val (.int p3), .val (.int p4), .val (.int p5), .val (.int p6), .val (.int (3 : Int32)), .val (.int f0), .val (.int f1), .val (.int f2), .val (.ref b84), .val (.ref b85), .val (.int tot), .val (.int (1 : Int32)), .val (.ref b105), .unset, .unset] [])) _
          refine XS.aload X107.here hx rfl (hb hby at_172) rfl rfl ?_
          show Steps p.tables e below (T107.setTop (mkF m 174 #[.val (.int p1), .val (.int p2), .val (.int p3), .val (.int p4), .val (.int p5), .val (.int p6), .val (.int (3 : Int32)), .val (.int f0), .val (.int f1), .val (.int f2), .val (.ref b84), .val (.ref b85), .val (.int tot), .val (.int (1 : Int32)), .val (.ref b105), .unset, .unset] [(.ref b105)])) _
          refine XS.iload X107.here hx rfl (hb hby at_174) rfl ?_
          show Steps p.tables e below (T107.setTop (mkF m 176 #[.val (.int p1), .val (.int p2), .val (.int p3), .val (.int p4), .val (.int p5), .val (.int p6), .val (.int (3 : Int32)), .val (.int f0), .val (.int f1), .val (.int f2), .val (.ref b84), .val (.ref b85), .val (.int tot), .val (.int (1 : Int32)), .val (.ref b105), .unset, .unset] [(.int tot), (.ref b105)])) _
          refine XS.iconst X107.here hx rfl (hb hby at_176) ?_
          show Steps p.tables e below (T107.setTop (mkF m 177 #[.val (.int p1), .val (.int p2), .val (.int p3), .val (.int p4), .val (.int p5), .val (.int p6), .val (.int (3 : Int32)), .val (.int f0), .val (.int f1), .val (.int f2), .val (.ref b84), .val (.ref b85), .val (.int tot), .val (.int (1 : Int32)), .val (.ref b105), .unset, .unset] [(.int (1 : Int32)), (.int tot), (.ref b105)])) _
          refine XS.isub X107.here hx rfl (hb hby at_177) rfl ?_
          show Steps p.tables e below (T107.setTop (mkF m 178 #[.val (.int p1), .val (.int p2), .val (.int p3), .val (.int p4), .val (.int p5), .val (.int p6), .val (.int (3 : Int32)), .val (.int f0), .val (.int f1), .val (.int f2), .val (.ref b84), .val (.ref b85), .val (.int tot), .val (.int (1 : Int32)), .val (.ref b105), .unset, .unset] [(.int (tot - (1 : Int32))), (.ref b105)])) _
          refine XS.iload X107.here hx rfl (hb hby at_178) rfl ?_
          show Steps p.tables e below (T107.setTop (mkF m 180 #[.val (.int p1), .val (.int p2), .val (.int p3), .val (.int p4), .val (.int p5), .val (.int p6), .val (.int (3 : Int32)), .val (.int f0), .val (.int f1), .val (.int f2), .val (.ref b84), .val (.ref b85), .val (.int tot), .val (.int (1 : Int32)), .val (.ref b105), .unset, .unset] [(.int p5), (.int (tot - (1 : Int32))), (.ref b105)])) _
          refine st110 _ ?_
          show Steps p.tables e below (T110.setTop (mkF m 181 #[.val (.int p1), .val (.int p2), .val (.int p3), .val (.int p4), .val (.int p5), .val (.int p6), .val (.int (3 : Int32)), .val (.int f0), .val (.int f1), .val (.int f2), .val (.ref b84), .val (.ref b85), .val (.int tot), .val (.int (1 : Int32)), .val (.ref b105), .unset, .unset] [])) _
          refine st111 _ ?_
          show Steps p.tables e below (T111.setTop (mkF m 184 #[.val (.int p1), .val (.int p2), .val (.int p3), .val (.int p4), .val (.int p5), .val (.int p6), .val (.int (3 : Int32)), .val (.int f0), .val (.int f1), .val (.int f2), .val (.ref b84), .val (.ref b85), .val (.int tot), .val (.int (1 : Int32)), .val (.ref b105), .unset, .unset] [(.ref b111)])) _
          refine XS.dup X111.here hx rfl (hb hby at_184) rfl rfl ?_
          show Steps p.tables e below (T111.setTop (mkF m 185 #[.val (.int p1), .val (.int p2), .val (.int p3), .val (.int p4), .val (.int p5), .val (.int p6), .val (.int (3 : Int32)), .val (.int f0), .val (.int f1), .val (.int f2), .val (.ref b84), .val (.ref b85), .val (.int tot), .val (.int (1 : Int32)), .val (.ref b105), .unset, .unset] [(.ref b111), (.ref b111)])) _
          refine XS.aload X111.here hx rfl (hb hby at_185) rfl rfl ?_
          show Steps p.tables e below (T111.setTop (mkF m 187 #[.val (.int p1), .val (.int p2), .val (.int p3), .val (.int p4), .val (.int p5), .val (.int p6), .val (.int (3 : Int32)), .val (.int f0), .val (.int f1), .val (.int f2), .val (.ref b84), .val (.ref b85), .val (.int tot), .val (.int (1 : Int32)), .val (.ref b105), .unset, .unset] [(.ref b84), (.ref b111), (.ref b111)])) _
          refine XS.aload X111.here hx rfl (hb hby at_187) rfl rfl ?_
          show Steps p.tables e below (T111.setTop (mkF m 189 #[.val (.int p1), .val (.int p2), .val (.int p3), .val (.int p4), .val (.int p5), .val (.int p6), .val (.int (3 : Int32)), .val (.int f0), .val (.int f1), .val (.int f2), .val (.ref b84), .val (.ref b85), .val (.int tot), .val (.int (1 : Int32)), .val (.ref b105), .unset, .unset] [(.ref b85), (.ref b84), (.ref b111), (.ref b111)])) _
          refine XS.aload X111.here hx rfl (hb hby at_189) rfl rfl ?_
          show Steps p.tables e below (T111.setTop (mkF m 191 #[.val (.int p1), .val (.int p2), .val (.int p3), .val (.int p4), .val (.int p5), .val (.int p6), .val (.int (3 : Int32)), .val (.int f0), .val (.int f1), .val (.int f2), .val (.ref b84), .val (.ref b85), .val (.int tot), .val (.int (1 : Int32)), .val (.ref b105), .unset, .unset] [(.ref b105), (.ref b85), (.ref b84), (.ref b111), (.ref b111)])) _
          refine st112.trans ?_
          show Steps p.tables e below (T112.setTop (mkF m 194 #[.val (.int p1), .val (.int p2), .val (.int p3), .val (.int p4), .val (.int p5), .val (.int p6), .val (.int (3 : Int32)), .val (.int f0), .val (.int f1), .val (.int f2), .val (.ref b84), .val (.ref b85), .val (.int tot), .val (.int (1 : Int32)), .val (.ref b105), .unset, .unset] [(.ref b111)])) _
          refine XS.astore X112.here hx rfl (hb hby at_194) rfl rfl (l' := #[.val (.int p1), .val (.int p2), .val (.int p3), .val (.int p4), .val (.int p5), .val (.int p6), .val (.int (3 : Int32)), .val (.int f0), .val (.int f1), .val (.int f2), .val (.ref b84), .val (.ref b85), .val (.int tot), .val (.int (1 : Int32)), .val (.ref b105), .val (.ref b111), .unset]) rfl ?_
          show Steps p.tables e below (T112.setTop (mkF m 196 #[.val (.int p1), .val (.int p2), .val (.int p3), .val (.int p4), .val (.int p5), .val (.int p6), .val (.int (3 : Int32)), .val (.int f0), .val (.int f1), .val (.int f2), .val (.ref b84), .val (.ref b85), .val (.int tot), .val (.int (1 : Int32)), .val (.ref b105), .val (.ref b111), .unset] [])) _
          refine XS.aload X112.here hx rfl (hb hby at_196) rfl rfl ?_
          show Steps p.tables e below (T112.setTop (mkF m 198 #[.val (.int p1), .val (.int p2), .val (.int p3), .val (.int p4), .val (.int p5), .val (.int p6), .val (.int (3 : Int32)), .val (.int f0), .val (.int f1), .val (.int f2), .val (.ref b84), .val (.ref b85), .val (.int tot), .val (.int (1 : Int32)), .val (.ref b105), .val (.ref b111), .unset] [(.ref b111)])) _
          refine st113.trans ?_
          show Steps p.tables e below (T113.setTop (mkF m 201 #[.val (.int p1), .val (.int p2), .val (.int p3), .val (.int p4), .val (.int p5), .val (.int p6), .val (.int (3 : Int32)), .val (.int f0), .val (.int f1), .val (.int f2), .val (.ref b84), .val (.ref b85), .val (.int tot), .val (.int (1 : Int32)), .val (.ref b105), .val (.ref b111), .unset] [(.int tot)])) _
          refine XS.istore X113.here hx rfl (hb hby at_201) rfl (l' := #[.val (.int p1), .val (.int p2), .val (.int p3), .val (.int p4), .val (.int p5), .val (.int p6), .val (.int (3 : Int32)), .val (.int f0), .val (.int f1), .val (.int f2), .val (.ref b84), .val (.ref b85), .val (.int tot), .val (.int (1 : Int32)), .val (.ref b105), .val (.ref b111), .val (.int tot)]) rfl ?_
          show Steps p.tables e below (T113.setTop (mkF m 203 #[.val (.int p1), .val (.int p2), .val (.int p3), .val (.int p4), .val (.int p5), .val (.int p6), .val (.int (3 : Int32)), .val (.int f0), .val (.int f1), .val (.int f2), .val (.ref b84), .val (.ref b85), .val (.int tot), .val (.int (1 : Int32)), .val (.ref b105), .val (.ref b111), .val (.int tot)] [])) _
          refine XS.aload X113.here hx rfl (hb hby at_203) rfl rfl ?_
          show Steps p.tables e below (T113.setTop (mkF m 205 #[.val (.int p1), .val (.int p2), .val (.int p3), .val (.int p4), .val (.int p5), .val (.int p6), .val (.int (3 : Int32)), .val (.int f0), .val (.int f1), .val (.int f2), .val (.ref b84), .val (.ref b85), .val (.int tot), .val (.int (1 : Int32)), .val (.ref b105), .val (.ref b111), .val (.int tot)] [(.ref b111)])) _
          refine st114.trans ?_
          show Steps p.tables e below (T114.setTop (mkF m 208 #[.val (.int p1), .val (.int p2), .val (.int p3), .val (.int p4), .val (.int p5), .val (.int p6), .val (.int (3 : Int32)), .val (.int f0), .val (.int f1), .val (.int f2), .val (.ref b84), .val (.ref b85), .val (.int tot), .val (.int (1 : Int32)), .val (.ref b105), .val (.ref b111), .val (.int tot)] [(.int (1 : Int32))])) _
          refine XS.iload X114.here hx rfl (hb hby at_208) rfl ?_
          show Steps p.tables e below (T114.setTop (mkF m 210 #[.val (.int p1), .val (.int p2), .val (.int p3), .val (.int p4), .val (.int p5), .val (.int p6), .val (.int (3 : Int32)), .val (.int f0), .val (.int f1), .val (.int f2), .val (.ref b84), .val (.ref b85), .val (.int tot), .val (.int (1 : Int32)), .val (.ref b105), .val (.ref b111), .val (.int tot)] [(.int (1 : Int32)), (.int (1 : Int32))])) _
          refine XS.icmpYes X114.here hx rfl (pc0 := 210) (pc' := 215) rfl (hb hby at_210) rfl (teq ((by decide) : (1 : Int32) = (1 : Int32))).1 (by decide) (by decide) ?_
          show Steps p.tables e below (T114.setTop (mkF m 215 #[.val (.int p1), .val (.int p2), .val (.int p3), .val (.int p4), .val (.int p5), .val (.int p6), .val (.int (3 : Int32)), .val (.int f0), .val (.int f1), .val (.int f2), .val (.ref b84), .val (.ref b85), .val (.int tot), .val (.int (1 : Int32)), .val (.ref b105), .val (.ref b111), .val (.int tot)] [])) _
          refine XS.iload X114.here hx rfl (hb hby at_215) rfl ?_
          show Steps p.tables e below (T114.setTop (mkF m 217 #[.val (.int p1), .val (.int p2), .val (.int p3), .val (.int p4), .val (.int p5), .val (.int p6), .val (.int (3 : Int32)), .val (.int f0), .val (.int f1), .val (.int f2), .val (.ref b84), .val (.ref b85), .val (.int tot), .val (.int (1 : Int32)), .val (.ref b105), .val (.ref b111), .val (.int tot)] [(.int (1 : Int32))])) _
          refine XS.ifNo X114.here hx rfl (hb hby at_217) rfl ((if0 _ _).trans (feq ((by decide) : ¬ ((1 : Int32) = (0 : Int32)))).1) ?_
          show Steps p.tables e below (T114.setTop (mkF m 220 #[.val (.int p1), .val (.int p2), .val (.int p3), .val (.int p4), .val (.int p5), .val (.int p6), .val (.int (3 : Int32)), .val (.int f0), .val (.int f1), .val (.int f2), .val (.ref b84), .val (.ref b85), .val (.int tot), .val (.int (1 : Int32)), .val (.ref b105), .val (.ref b111), .val (.int tot)] [])) _
          refine XS.iload X114.here hx rfl (hb hby at_220) rfl ?_
          show Steps p.tables e below (T114.setTop (mkF m 222 #[.val (.int p1), .val (.int p2), .val (.int p3), .val (.int p4), .val (.int p5), .val (.int p6), .val (.int (3 : Int32)), .val (.int f0), .val (.int f1), .val (.int f2), .val (.ref b84), .val (.ref b85), .val (.int tot), .val (.int (1 : Int32)), .val (.ref b105), .val (.ref b111), .val (.int tot)] [(.int tot)])) _
          refine XS.iload X114.here hx rfl (hb hby at_222) rfl ?_
          show Steps p.tables e below (T114.setTop (mkF m 224 #[.val (.int p1), .val (.int p2), .val (.int p3), .val (.int p4), .val (.int p5), .val (.int p6), .val (.int (3 : Int32)), .val (.int f0), .val (.int f1), .val (.int f2), .val (.ref b84), .val (.ref b85), .val (.int tot), .val (.int (1 : Int32)), .val (.ref b105), .val (.ref b111), .val (.int tot)] [(.int tot), (.int tot)])) _
          refine XS.icmpNo X114.here hx rfl (hb hby at_224) rfl (teq (rfl : tot = tot)).2 ?_
          show Steps p.tables e below (T114.setTop (mkF m 227 #[.val (.int p1), .val (.int p2), .val (.int p3), .val (.int p4), .val (.int p5), .val (.int p6), .val (.int (3 : Int32)), .val (.int f0), .val (.int f1), .val (.int f2), .val (.ref b84), .val (.ref b85), .val (.int tot), .val (.int (1 : Int32)), .val (.ref b105), .val (.ref b111), .val (.int tot)] [])) _
          refine XS.iconst X114.here hx rfl (hb hby at_227) ?_
          show Steps p.tables e below (T114.setTop (mkF m 228 #[.val (.int p1), .val (.int p2), .val (.int p3), .val (.int p4), .val (.int p5), .val (.int p6), .val (.int (3 : Int32)), .val (.int f0), .val (.int f1), .val (.int f2), .val (.ref b84), .val (.ref b85), .val (.int tot), .val (.int (1 : Int32)), .val (.ref b105), .val (.ref b111), .val (.int tot)] [(.int (1 : Int32))])) _
          refine XS.goto X114.here hx rfl (pc0 := 228) (pc' := 232) rfl (hb hby at_228) (by decide) (by decide) ?_
          exact k)
        obtain ⟨fs, hr, hrun, hended, hW, hsame⟩ := X114.leave (v := some (.int (nar .boolean (1 : Int32)))) (fun h => by rw [Bd.returns] at h; cases h)
        refine ⟨_, _, pre115 _ ?_, hrun, hended, _, _, rfl, ?_, ⟨_, rfl⟩, hW, hsame.mono (by decide) (by decide)⟩
        · show Steps p.tables e below (T114.setTop (mkF m 232 #[.val (.int p1), .val (.int p2), .val (.int p3), .val (.int p4), .val (.int p5), .val (.int p6), .val (.int (3 : Int32)), .val (.int f0), .val (.int f1), .val (.int f2), .val (.ref b84), .val (.ref b85), .val (.int tot), .val (.int (1 : Int32)), .val (.ref b105), .val (.ref b111), .val (.int tot)] [(.int (1 : Int32))])) _
          exact retN X114 hx (t := .boolean) Bd.returns (by simp) (hb hby at_232) hr
        · show QL n0 _ T114.heap _
          rw [e114]
          exact ⟨rfl, N114⟩
      · obtain ⟨T116, h116, X116, e116, E116, A116, D116, -, st116⟩ := newO X107 hx hZ hown (hw _ (List.mem_of_getElem? (i := 1) rfl)) (hw _ (List.mem_of_getElem? (i := 2) rfl)) (hw _ (List.mem_of_getElem? (i := 3) rfl)) e107 (g := (mkF m 181 #[.val (.int p1), .val (.int p2), .val (.int p3), .val (.int p4), .val (.int p5), .val (.int p6), .val (.int (3 : Int32)), .val (.int f0), .val (.int f1), .val (.int f2), .val (.ref b84), .val (.ref b85), .val (.int tot), .val (.int (1 : Int32)), .val (.ref b105), .unset, .unset] [])) rfl (hb hby at_181) (by decide) (by decide)
        obtain ⟨b116, g116⟩ : ∃ z, z = h107.size := ⟨_, rfl⟩
        rw [← g116] at A116 D116 st116
        have ne_b84_b116 : b84 ≠ b116 := Nat.ne_of_lt (Nat.lt_of_lt_of_le (V107_0).lt (Nat.le_of_eq g116.symm))
        have ne_b85_b116 : b85 ≠ b116 := Nat.ne_of_lt (Nat.lt_of_lt_of_le (V107_1).lt (Nat.le_of_eq g116.symm))
        have ne_b105_b116 : b105 ≠ b116 := Nat.ne_of_lt (Nat.lt_of_lt_of_le (V_b105_107).lt (Nat.le_of_eq g116.symm))
        have g_b116 : n0 ≤ b116 := Nat.le_trans z107 (Nat.le_of_eq g116.symm)
        have V116_0 := V107_0.ext E116
        have V116_1 := V107_1.ext E116
        have V116_2 := V_b105_107.ext E116
        have z116 : n0 ≤ h116.size := Nat.le_trans z107 E116.1
        have F_documents_b116 : Fld Z h116 b116 "com/example/cranfield/cranfield/index/Postings" "documents" "[I" .null := D116 (Or.inr (hw _ (List.mem_of_getElem? (i := 11) rfl))) (ty := (.array .int)) (by decide)
        have F_frequencies_b116 : Fld Z h116 b116 "com/example/cranfield/cranfield/index/Postings" "frequencies" "[I" .null := D116 (Or.inr (hw _ (List.mem_of_getElem? (i := 13) rfl))) (ty := (.array .int)) (by decide)
        have F_positions_b116 : Fld Z h116 b116 "com/example/cranfield/cranfield/index/Postings" "positions" "[I" .null := D116 (Or.inr (hw _ (List.mem_of_getElem? (i := 15) rfl))) (ty := (.array .int)) (by decide)
        have F_firstPositions_b116 : Fld Z h116 b116 "com/example/cranfield/cranfield/index/Postings" "firstPositions" "[I" .null := D116 (Or.inr (hw _ (List.mem_of_getElem? (i := 17) rfl))) (ty := (.array .int)) (by decide)
        obtain ⟨_, _, ⟨T117, L117, k117, n117⟩, -, X117, ⟨Lc117, hQ117, l117, y117, z117⟩, st117⟩ := X116.specialBack hx (y := (⟨"com/example/cranfield/cranfield/index/Postings", "<init>", "([I[I[I)V"⟩ : MethodName)) rfl hown (mvT hZ (hw _ (List.mem_of_getElem? (i := 4) rfl))) (mvT hZ (hw _ (List.mem_of_getElem? (i := 5) rfl))) (mvT hZ (hw _ (List.mem_of_getElem? (i := 6) rfl))) (by decide) (backOf (W := 1) (rmI3 l Z a0 hw [] b116 b84 b85 b105 k84 k85 f0 f1 f2 h116 n0 z116 A116 g_b116 F_documents_b116 F_frequencies_b116 F_positions_b116 F_firstPositions_b116 V116_0 V116_1 (Ne.symm ne_b84_b116) (Ne.symm ne_b85_b116)) hZ (hw _ (List.mem_of_getElem? (i := 6) rfl)) (hw _ (List.mem_of_getElem? (i := 3) rfl)) (by decide) (by decide)) (g := (mkF m 191 #[.val (.int p1), .val (.int p2), .val (.int p3), .val (.int p4), .val (.int p5), .val (.int p6), .val (.int (3 : Int32)), .val (.int f0), .val (.int f1), .val (.int f2), .val (.ref b84), .val (.ref b85), .val (.int tot), .val (.int (1 : Int32)), .val (.ref b105), .unset, .unset] [(.ref b105), (.ref b85), (.ref b84), (.ref b116), (.ref b116)])) rfl (by rw [hml]; rfl) (Steps.refl _) (a := b116) (argsL := [(.ref b84), (.ref b85), (.ref b105)]) (rest := [(.ref b116)]) (lenOf own_pd0 rfl) rfl (by show 2 * 0 + _ ≤ _; exact Nat.le_of_eq rfl) (hb hby at_191) (fun _ _ => ⟨rfl, e116, (by decide : 4 + 1 ≤ _), (by decide : 22 + 3 ≤ _)⟩)
        dsimp only [Pt.U, Pt.locs, Pt.cells, Pt.slots] at X117 l117 y117 z117 st117 hQ117
        subst l117 y117 z117
        obtain ⟨h117, e117⟩ : ∃ z, T117.heap = z := ⟨_, rfl⟩
        rw [e117] at hQ117
        obtain ⟨rfl, N117q, Kc117, fp117⟩ := hQ117
        have N117 := Fr.app N107 N117q
        have X117_1849 := A116.keep Kc117
        have V117_1850 := V116_0.keep Kc117 (ninS ne_b84_b116 nin0)
        have V117_1851 := V116_1.keep Kc117 (ninS ne_b85_b116 nin0)
        have V117_1852 := V116_2.keep Kc117 (ninS ne_b105_b116 nin0)
        have z117 : n0 ≤ h117.size := Nat.le_trans z116 Kc117.1
        obtain ⟨cq118, kq118, q118a, q118b, q118c⟩ := isOf hZ e117 X117_1849
        obtain ⟨_, _, ⟨T118, L118, k118, n118⟩, -, X118, ⟨Lc118, hQ118, l118, y118, z118⟩, st118⟩ := X117.virtualBack hx (y := (⟨"com/example/cranfield/cranfield/index/Postings", "positionCount", "()I"⟩ : MethodName)) (z := (⟨"com/example/cranfield/cranfield/index/Postings", "positionCount", "()I"⟩ : MethodName)) hown (mvT hZ (hw _ (List.mem_of_getElem? (i := 18) rfl))) (mvT hZ (hw _ (List.mem_of_getElem? (i := 19) rfl))) (notFace_of_selects (args := #[]) (mvT hZ (hw _ (List.mem_of_getElem? (i := 21) rfl)))) (mvT hZ (hw _ (List.mem_of_getElem? (i := 21) rfl))) (mvT hZ (hw _ (List.mem_of_getElem? (i := 20) rfl))) (by decide) (backOf (W := 0) (rmPr l Z a0 hw [] b116 b105 k105 tot [] [(.int p5)] (.int (0 : Int32)) h117 n0 z117 fp117 V117_1852) hZ (hw _ (List.mem_of_getElem? (i := 22) rfl)) (hw _ (List.mem_of_getElem? (i := 3) rfl)) (by decide) (by decide)) q118a q118c (g := (mkF m 198 #[.val (.int p1), .val (.int p2), .val (.int p3), .val (.int p4), .val (.int p5), .val (.int p6), .val (.int (3 : Int32)), .val (.int f0), .val (.int f1), .val (.int f2), .val (.ref b84), .val (.ref b85), .val (.int tot), .val (.int (1 : Int32)), .val (.ref b105), .val (.ref b116), .unset] [(.ref b116)])) rfl (by rw [hml]; rfl) (Steps.refl _) (argsL := []) (rest := []) (lenOf own_pd1 rfl) rfl (by show 2 * 0 + _ ≤ _; exact Nat.le_of_eq rfl) (hb hby at_198) (fun _ _ => ⟨rfl, e117, (by decide : 5 + 0 ≤ _), (by decide : 25 + 0 ≤ _)⟩)
        dsimp only [Pt.U, Pt.locs, Pt.cells, Pt.slots] at X118 l118 y118 z118 st118 hQ118
        subst l118 y118 z118
        obtain ⟨rfl, N118q, e118⟩ := hQ118
        have N118 := Fr.app N117 N118q
        obtain ⟨cq119, kq119, q119a, q119b, q119c⟩ := isOf hZ e118 X117_1849
        obtain ⟨_, _, ⟨T119, L119, k119, n119⟩, -, X119, ⟨Lc119, hQ119, l119, y119, z119⟩, st119⟩ := X118.virtualBack hx (y := (⟨"com/example/cranfield/cranfield/index/Postings", "hasPositions", "()Z"⟩ : MethodName)) (z := (⟨"com/example/cranfield/cranfield/index/Postings", "hasPositions", "()Z"⟩ : MethodName)) hown (mvT hZ (hw _ (List.mem_of_getElem? (i := 23) rfl))) (mvT hZ (hw _ (List.mem_of_getElem? (i := 24) rfl))) (notFace_of_selects (args := #[]) (mvT hZ (hw _ (List.mem_of_getElem? (i := 26) rfl)))) (mvT hZ (hw _ (List.mem_of_getElem? (i := 26) rfl))) (mvT hZ (hw _ (List.mem_of_getElem? (i := 25) rfl))) (by decide) (backOf (W := 0) (rmHr l Z a0 hw [] b116 b105 h117 n0 z117 fp117) hZ (hw _ (List.mem_of_getElem? (i := 27) rfl)) (hw _ (List.mem_of_getElem? (i := 3) rfl)) (by decide) (by decide)) q119a q119c (g := (mkF m 205 #[.val (.int p1), .val (.int p2), .val (.int p3), .val (.int p4), .val (.int p5), .val (.int p6), .val (.int (3 : Int32)), .val (.int f0), .val (.int f1), .val (.int f2), .val (.ref b84), .val (.ref b85), .val (.int tot), .val (.int (1 : Int32)), .val (.ref b105), .val (.ref b116), .val (.int tot)] [(.ref b116)])) rfl (by rw [hml]; rfl) (Steps.refl _) (argsL := []) (rest := []) (lenOf own_pd2 rfl) rfl (by show 2 * 0 + _ ≤ _; exact Nat.le_of_eq rfl) (hb hby at_205) (fun _ _ => ⟨rfl, e118, (by decide : 5 + 0 ≤ _), (by decide : 25 + 0 ≤ _)⟩)
        dsimp only [Pt.U, Pt.locs, Pt.cells, Pt.slots] at X119 l119 y119 z119 st119 hQ119
        subst l119 y119 z119
        obtain ⟨rfl, N119q, e119⟩ := hQ119
        have N119 := Fr.app N118 N119q
        have pre120 : ∀ t, Steps p.tables e below (T119.setTop (mkF m 232 #[.val (.int p1), .val (.int p2), .val (.int p3), .val (.int p4), .val (.int p5), .val (.int p6), .val (.int (3 : Int32)), .val (.int f0), .val (.int f1), .val (.int f2), .val (.ref b84), .val (.ref b85), .val (.int tot), .val (.int (1 : Int32)), .val (.ref b105), .val (.ref b116), .val (.int tot)] [(.int (1 : Int32))])) t → Steps p.tables e below (s₁.setTop (entryFrame m #[(.int p1), (.int p2), (.int p3), (.int p4), (.int p5), (.int p6)] maxLocals)) t := fun t k => pre108 t (by
          show Steps p.tables e below (T107.setTop (mkF m 169 #[.val (.int p1), .val (.int p2), .val (.int p3), .val (.int p4), .val (.int p5), .val (.int p6), .val (.int (3 : Int32)), .val (.int f0), .val (.int f1), .val (.int f2), .val (.ref b84), .val (.ref b85), .val (.int tot), .val (.int (1 : Int32)), .val (.ref b105), .unset, .unset] [(.int (1 : Int32)), (.int tot)])) _
          refine XS.icmpYes X107.here hx rfl (pc0 := 169) (pc' := 181) rfl (hb hby at_169) rfl (flt (ht1 : ¬ ((1 : Int32) < tot))).2.2.2 (by decide) (by decide) ?_
          show Steps p.tables e below (T107.setTop (mkF m 181 #[.val (.int p1), .val (.int p2), .val (.int p3), .val (.int p4), .val (.int p5), .val (.int p6), .val (.int (3 : Int32)), .val (.int f0), .val (.int f1), .val (.int f2), .val (.ref b84), .val (.ref b85), .val (.int tot), .val (.int (1 : Int32)), .val (.ref b105), .unset, .unset] [])) _
          refine st116 _ ?_
          show Steps p.tables e below (T116.setTop (mkF m 184 #[.val (.int p1), .val (.int p2), .val (.int p3), .val (.int p4), .val (.int p5), .val (.int p6), .val (.int (3 : Int32)), .val (.int f0), .val (.int f1), .val (.int f2), .val (.ref b84), .val (.ref b85), .val (.int tot), .val (.int (1 : Int32)), .val (.ref b105), .unset, .unset] [(.ref b116)])) _
          refine XS.dup X116.here hx rfl (hb hby at_184) rfl rfl ?_
          show Steps p.tables e below (T116.setTop (mkF m 185 #[.val (.int p1), .val (.int p2), .val (.int p3), .val (.int p4), .val (.int p5), .val (.int p6), .val (.int (3 : Int32)), .val (.int f0), .val (.int f1), .val (.int f2), .val (.ref b84), .val (.ref b85), .val (.int tot), .val (.int (1 : Int32)), .val (.ref b105), .unset, .unset] [(.ref b116), (.ref b116)])) _
          refine XS.aload X116.here hx rfl (hb hby at_185) rfl rfl ?_
          show Steps p.tables e below (T116.setTop (mkF m 187 #[.val (.int p1), .val (.int p2), .val (.int p3), .val (.int p4), .val (.int p5), .val (.int p6), .val (.int (3 : Int32)), .val (.int f0), .val (.int f1), .val (.int f2), .val (.ref b84), .val (.ref b85), .val (.int tot), .val (.int (1 : Int32)), .val (.ref b105), .unset, .unset] [(.ref b84), (.ref b116), (.ref b116)])) _
          refine XS.aload X116.here hx rfl (hb hby at_187) rfl rfl ?_
          show Steps p.tables e below (T116.setTop (mkF m 189 #[.val (.int p1), .val (.int p2), .val (.int p3), .val (.int p4), .val (.int p5), .val (.int p6), .val (.int (3 : Int32)), .val (.int f0), .val (.int f1), .val (.int f2), .val (.ref b84), .val (.ref b85), .val (.int tot), .val (.int (1 : Int32)), .val (.ref b105), .unset, .unset] [(.ref b85), (.ref b84), (.ref b116), (.ref b116)])) _
          refine XS.aload X116.here hx rfl (hb hby at_189) rfl rfl ?_
          show Steps p.tables e below (T116.setTop (mkF m 191 #[.val (.int p1), .val (.int p2), .val (.int p3), .val (.int p4), .val (.int p5), .val (.int p6), .val (.int (3 : Int32)), .val (.int f0), .val (.int f1), .val (.int f2), .val (.ref b84), .val (.ref b85), .val (.int tot), .val (.int (1 : Int32)), .val (.ref b105), .unset, .unset] [(.ref b105), (.ref b85), (.ref b84), (.ref b116), (.ref b116)])) _
          refine st117.trans ?_
          show Steps p.tables e below (T117.setTop (mkF m 194 #[.val (.int p1), .val (.int p2), .val (.int p3), .val (.int p4), .val (.int p5), .val (.int p6), .val (.int (3 : Int32)), .val (.int f0), .val (.int f1), .val (.int f2), .val (.ref b84), .val (.ref b85), .val (.int tot), .val (.int (1 : Int32)), .val (.ref b105), .unset, .unset] [(.ref b116)])) _
          refine XS.astore X117.here hx rfl (hb hby at_194) rfl rfl (l' := #[.val (.int p1), .val (.int p2), .val (.int p3), .val (.int p4), .val (.int p5), .val (.int p6), .val (.int (3 : Int32)), .val (.int f0), .val (.int f1), .val (.int f2), .val (.ref b84), .val (.ref b85), .val (.int tot), .val (.int (1 : Int32)), .val (.ref b105), .val (.ref b116), .unset]) rfl ?_
          show Steps p.tables e below (T117.setTop (mkF m 196 #[.val (.int p1), .val (.int p2), .val (.int p3), .val (.int p4), .val (.int p5), .val (.int p6), .val (.int (3 : Int32)), .val (.int f0), .val (.int f1), .val (.int f2), .val (.ref b84), .val (.ref b85), .val (.int tot), .val (.int (1 : Int32)), .val (.ref b105), .val (.ref b116), .unset] [])) _
          refine XS.aload X117.here hx rfl (hb hby at_196) rfl rfl ?_
          show Steps p.tables e below (T117.setTop (mkF m 198 #[.val (.int p1), .val (.int p2), .val (.int p3), .val (.int p4), .val (.int p5), .val (.int p6), .val (.int (3 : Int32)), .val (.int f0), .val (.int f1), .val (.int f2), .val (.ref b84), .val (.ref b85), .val (.int tot), .val (.int (1 : Int32)), .val (.ref b105), .val (.ref b116), .unset] [(.ref b116)])) _
          refine st118.trans ?_
          show Steps p.tables e below (T118.setTop (mkF m 201 #[.val (.int p1), .val (.int p2), .val (.int p3), .val (.int p4), .val (.int p5), .val (.int p6), .val (.int (3 : Int32)), .val (.int f0), .val (.int f1), .val (.int f2), .val (.ref b84), .val (.ref b85), .val (.int tot), .val (.int (1 : Int32)), .val (.ref b105), .val (.ref b116), .unset] [(.int tot)])) _
          refine XS.istore X118.here hx rfl (hb hby at_201) rfl (l' := #[.val (.int p1), .val (.int p2), .val (.int p3), .val (.int p4), .val (.int p5), .val (.int p6), .val (.int (3 : Int32)), .val (.int f0), .val (.int f1), .val (.int f2), .val (.ref b84), .val (.ref b85), .val (.int tot), .val (.int (1 : Int32)), .val (.ref b105), .val (.ref b116), .val (.int tot)]) rfl ?_
          show Steps p.tables e below (T118.setTop (mkF m 203 #[.val (.int p1), .val (.int p2), .val (.int p3), .val (.int p4), .val (.int p5), .val (.int p6), .val (.int (3 : Int32)), .val (.int f0), .val (.int f1), .val (.int f2), .val (.ref b84), .val (.ref b85), .val (.int tot), .val (.int (1 : Int32)), .val (.ref b105), .val (.ref b116), .val (.int tot)] [])) _
          refine XS.aload X118.here hx rfl (hb hby at_203) rfl rfl ?_
          show Steps p.tables e below (T118.setTop (mkF m 205 #[.val (.int p1), .val (.int p2), .val (.int p3), .val (.int p4), .val (.int p5), .val (.int p6), .val (.int (3 : Int32)), .val (.int f0), .val (.int f1), .val (.int f2), .val (.ref b84), .val (.ref b85), .val (.int tot), .val (.int (1 : Int32)), .val (.ref b105), .val (.ref b116), .val (.int tot)] [(.ref b116)])) _
          refine st119.trans ?_
          show Steps p.tables e below (T119.setTop (mkF m 208 #[.val (.int p1), .val (.int p2), .val (.int p3), .val (.int p4), .val (.int p5), .val (.int p6), .val (.int (3 : Int32)), .val (.int f0), .val (.int f1), .val (.int f2), .val (.ref b84), .val (.ref b85), .val (.int tot), .val (.int (1 : Int32)), .val (.ref b105), .val (.ref b116), .val (.int tot)] [(.int (1 : Int32))])) _
          refine XS.iload X119.here hx rfl (hb hby at_208) rfl ?_
          show Steps p.tables e below (T119.setTop (mkF m 210 #[.val (.int p1), .val (.int p2), .val (.int p3), .val (.int p4), .val (.int p5), .val (.int p6), .val (.int (3 : Int32)), .val (.int f0), .val (.int f1), .val (.int f2), .val (.ref b84), .val (.ref b85), .val (.int tot), .val (.int (1 : Int32)), .val (.ref b105), .val (.ref b116), .val (.int tot)] [(.int (1 : Int32)), (.int (1 : Int32))])) _
          refine XS.icmpYes X119.here hx rfl (pc0 := 210) (pc' := 215) rfl (hb hby at_210) rfl (teq ((by decide) : (1 : Int32) = (1 : Int32))).1 (by decide) (by decide) ?_
          show Steps p.tables e below (T119.setTop (mkF m 215 #[.val (.int p1), .val (.int p2), .val (.int p3), .val (.int p4), .val (.int p5), .val (.int p6), .val (.int (3 : Int32)), .val (.int f0), .val (.int f1), .val (.int f2), .val (.ref b84), .val (.ref b85), .val (.int tot), .val (.int (1 : Int32)), .val (.ref b105), .val (.ref b116), .val (.int tot)] [])) _
          refine XS.iload X119.here hx rfl (hb hby at_215) rfl ?_
          show Steps p.tables e below (T119.setTop (mkF m 217 #[.val (.int p1), .val (.int p2), .val (.int p3), .val (.int p4), .val (.int p5), .val (.int p6), .val (.int (3 : Int32)), .val (.int f0), .val (.int f1), .val (.int f2), .val (.ref b84), .val (.ref b85), .val (.int tot), .val (.int (1 : Int32)), .val (.ref b105), .val (.ref b116), .val (.int tot)] [(.int (1 : Int32))])) _
          refine XS.ifNo X119.here hx rfl (hb hby at_217) rfl ((if0 _ _).trans (feq ((by decide) : ¬ ((1 : Int32) = (0 : Int32)))).1) ?_
          show Steps p.tables e below (T119.setTop (mkF m 220 #[.val (.int p1), .val (.int p2), .val (.int p3), .val (.int p4), .val (.int p5), .val (.int p6), .val (.int (3 : Int32)), .val (.int f0), .val (.int f1), .val (.int f2), .val (.ref b84), .val (.ref b85), .val (.int tot), .val (.int (1 : Int32)), .val (.ref b105), .val (.ref b116), .val (.int tot)] [])) _
          refine XS.iload X119.here hx rfl (hb hby at_220) rfl ?_
          show Steps p.tables e below (T119.setTop (mkF m 222 #[.val (.int p1), .val (.int p2), .val (.int p3), .val (.int p4), .val (.int p5), .val (.int p6), .val (.int (3 : Int32)), .val (.int f0), .val (.int f1), .val (.int f2), .val (.ref b84), .val (.ref b85), .val (.int tot), .val (.int (1 : Int32)), .val (.ref b105), .val (.ref b116), .val (.int tot)] [(.int tot)])) _
          refine XS.iload X119.here hx rfl (hb hby at_222) rfl ?_
          show Steps p.tables e below (T119.setTop (mkF m 224 #[.val (.int p1), .val (.int p2), .val (.int p3), .val (.int p4), .val (.int p5), .val (.int p6), .val (.int (3 : Int32)), .val (.int f0), .val (.int f1), .val (.int f2), .val (.ref b84), .val (.ref b85), .val (.int tot), .val (.int (1 : Int32)), .val (.ref b105), .val (.ref b116), .val (.int tot)] [(.int tot), (.int tot)])) _
          refine XS.icmpNo X119.here hx rfl (hb hby at_224) rfl (teq (rfl : tot = tot)).2 ?_
          show Steps p.tables e below (T119.setTop (mkF m 227 #[.val (.int p1), .val (.int p2), .val (.int p3), .val (.int p4), .val (.int p5), .val (.int p6), .val (.int (3 : Int32)), .val (.int f0), .val (.int f1), .val (.int f2), .val (.ref b84), .val (.ref b85), .val (.int tot), .val (.int (1 : Int32)), .val (.ref b105), .val (.ref b116), .val (.int tot)] [])) _
          refine XS.iconst X119.here hx rfl (hb hby at_227) ?_
          show Steps p.tables e below (T119.setTop (mkF m 228 #[.val (.int p1), .val (.int p2), .val (.int p3), .val (.int p4), .val (.int p5), .val (.int p6), .val (.int (3 : Int32)), .val (.int f0), .val (.int f1), .val (.int f2), .val (.ref b84), .val (.ref b85), .val (.int tot), .val (.int (1 : Int32)), .val (.ref b105), .val (.ref b116), .val (.int tot)] [(.int (1 : Int32))])) _
          refine XS.goto X119.here hx rfl (pc0 := 228) (pc' := 232) rfl (hb hby at_228) (by decide) (by decide) ?_
          exact k)
        obtain ⟨fs, hr, hrun, hended, hW, hsame⟩ := X119.leave (v := some (.int (nar .boolean (1 : Int32)))) (fun h => by rw [Bd.returns] at h; cases h)
        refine ⟨_, _, pre120 _ ?_, hrun, hended, _, _, rfl, ?_, ⟨_, rfl⟩, hW, hsame.mono (by decide) (by decide)⟩
        · show Steps p.tables e below (T119.setTop (mkF m 232 #[.val (.int p1), .val (.int p2), .val (.int p3), .val (.int p4), .val (.int p5), .val (.int p6), .val (.int (3 : Int32)), .val (.int f0), .val (.int f1), .val (.int f2), .val (.ref b84), .val (.ref b85), .val (.int tot), .val (.int (1 : Int32)), .val (.ref b105), .val (.ref b116), .val (.int tot)] [(.int (1 : Int32))])) _
          exact retN X119 hx (t := .boolean) Bd.returns (by simp) (hb hby at_232) hr
        · show QL n0 _ T119.heap _
          rw [e119]
          exact ⟨rfl, N119⟩
set_option maxRecDepth 65536 in
set_option maxHeartbeats 40000000 in
theorem comes_1 {Post : Tables → Env → Array Value → State → Outcome → State → Prop} (hpost : ∀ tb e args s v u, (limb_1_1.after args s (.returned v) u = true ∧ limb_1_2.after args s (.returned v) u = true ∧ True) → FrameEnd s (.returned v) u (Jvm.fieldLocs frame_1_writes args s ++ Jvm.arrayLocs frame_1_arrays args s ++ Jvm.staticLocs frame_1_statics s) 24 128 → Post tb e args s (.returned v) u) :
    ArmFor flags0 classFile x code maxLocals ret World_1 tables_1 room_1 Calls_1 rest_1 Pre_1 Post := by
  intro l hfl _ _ p e ha hc hk s m args below hf hA hF happ hP
  obtain ⟨hcalls, hrest, hpre⟩ := hP
  obtain ⟨-, -, -, hnamed, -, -, -, hat⟩ := (Spec.applies_iff hf).mp happ
  obtain ⟨hg, hn⟩ := and_e (Cond.before_iff.mp (show (Jvm.Cond.and given_1 narrow_1).before args s = true from hpre))
  obtain ⟨gc, gr0⟩ := and_e hg
  obtain ⟨ga0, gr1⟩ := and_e gr0
  obtain ⟨ga1, gr2⟩ := and_e gr1
  obtain ⟨ga2, gr3⟩ := and_e gr2
  obtain ⟨ga3, gr4⟩ := and_e gr3
  obtain ⟨ga4, gr5⟩ := and_e gr4
  have ga5 := gr5
  obtain ⟨w0, w1, w2, w3, w4, w5, rfl⟩ : ∃ w0 w1 w2 w3 w4 w5 : Value, args = #[w0, w1, w2, w3, w4, w5] := by
    have hs : args.size = 6 := by simpa [Cond.value, given_1] using gc
    obtain ⟨L⟩ := args
    match L, hs with
    | [w0, w1, w2, w3, w4, w5], _ => exact ⟨w0, w1, w2, w3, w4, w5, rfl⟩
  have hw := fun d (hd : d ∈ tables_1) => atoms_spec (ws := Jvm.Cond.code x code maxLocals ret :: tables_1) hat d (List.mem_cons_of_mem _ hd)
  have hfit : Fit s := fun {y c} hc i hi => by
    obtain ⟨ha, rfl⟩ := Array.getElem?_eq_some_iff.mp hc
    have q := List.all_eq_true.mp ((Array.all_eq_true_iff_forall_mem.mp hF) _ (Array.getElem_mem ha)) i (List.mem_range.mpr hi)
    simpa [Array.getElem?_eq_getElem hi] using q
  obtain ⟨i0, ei0⟩ := is_v ga0
  obtain rfl : w0 = (.int i0) := Option.some.inj ei0
  obtain ⟨i1, ei1⟩ := is_v ga1
  obtain rfl : w1 = (.int i1) := Option.some.inj ei1
  obtain ⟨i2, ei2⟩ := is_v ga2
  obtain rfl : w2 = (.int i2) := Option.some.inj ei2
  obtain ⟨i3, ei3⟩ := is_v ga3
  obtain rfl : w3 = (.int i3) := Option.some.inj ei3
  obtain ⟨i4, ei4⟩ := is_v ga4
  obtain rfl : w4 = (.int i4) := Option.some.inj ei4
  obtain ⟨i5, ei5⟩ := is_v ga5
  obtain rfl : w5 = (.int i5) := Option.some.inj ei5
  obtain ⟨n, o, h1, h2, h3, _, L, rfl, ⟨rfl, N⟩, hq⟩ := rm0 l s _ hw tables_1 i0 i1 i2 i3 i4 i5  s.heap s.heap.size (Nat.le_refl _)  p e ha hc hk s m _ below hf ((Spec.applies_iff_loose hf).mp happ).1 ⟨rfl, State.Warmed39.refl s, rfl⟩ trivial
  refine ⟨n, _, h1, h2, h3, hpost _ _ _ _ _ _ ⟨Cond.after_iff.mpr rfl, Cond.after_iff.mpr (eq_i res_at (Term.int_eval (1)) rfl), trivial⟩ ⟨hq.1, hq.2.1, (hq.2.2.sift fun y hy => Or.inr (N y hy)).mono (by decide) (by decide)⟩⟩
theorem main_1_1 : Claimed_1_1 := comes_1 fun _ _ _ _ _ _ h hF => ⟨h.1, hF⟩
theorem main_1_2 : Claimed_1_2 := comes_1 fun _ _ _ _ _ _ h hF => ⟨h.2.1, hF⟩
end Jvm.Pilot.@@N@@
namespace Jvm.Pilot.@@N@@
open Jvm Jvm.ClassFile Sem Op Lib Jvm.Free Jvm.Stand Jvm.Pilot.@@N@@.Jvm.D
/-! MADE BY PROGRAM (witnessworld.py) out of the Statement's table words and the real class files: 9 classes; the members and pool entries that the words name. The judged class is class 1, her method 1. -/
namespace start1
open Jvm.ClassFile
def u (s : String) : CpInfo := .utf8 (stringToUtf16 s)
/-- a pool by its gaps: so many unusable entries, then the entry; so many at the end -/
def gap : Nat → List CpInfo → List CpInfo
  | 0, r => r
  | n + 1, r => .unusable :: gap n r
def poolList (es : List (Nat × CpInfo)) (last : Nat) : List CpInfo := es.foldr (fun e r => gap e.1 (e.2 :: r)) (gap last [])
def pool (es : List (Nat × CpInfo)) (last : Nat) : Array CpInfo := ⟨poolList es last⟩
def fileOf (pool : Array CpInfo) (this : Nat) (attrs : Array Attribute := #[]) (ms : Array MethodInfo := #[]) (fl : Nat := 33) (sup : Nat := 0) (ifs : Array Nat := #[]) (fds : Array FieldInfo := #[]) : ClassFile where
  minorVersion := 0
  majorVersion := 65
  constantPool := pool
  accessFlags := fl
  thisClass := this
  superClass := sup
  interfaces := ifs
  fields := fds
  methods := ms
  attributes := attrs
def plain (name : String) (sup : Option ClassId) : Class where
  name := name
  kind := .ordinary
  loader := none
  accessFlags := 33
  super := sup
  interfaces := #[]
  cf := none
  fields := #[]
  methods := #[]
  instanceTypes := #[]
  staticTypes := #[]
  resolved := #[]
  callSites := []
  init := .initialized
  statics := none
  mirror := none

def pool0 : Array CpInfo := pool [(5, u "<init>"), (0, u "()V"), (1, .class_ 10), (1, u "java/lang/Object")] 113

def k0c0 : Code := { maxStack := 0, maxLocals := 1, code := object_method_1_code, exceptionTable := #[], attributes := #[] }
def k0m0 : Method := { name := "<init>", desc := "()V", sig := { parameters := [], returnType := none }, accessFlags := 1, code := some k0c0 }
/-- java/lang/Object -/
def k0 : Class := { plain "java/lang/Object" none with
  accessFlags := 33
  interfaces := #[]
  cf := some (fileOf pool0 8 #[] #[{ accessFlags := 1, nameIndex := 5, descriptorIndex := 6, attributes := #[] }] 33 0 #[] #[])
  fields := #[]
  methods := #[k0m0]
  instanceTypes := #[]
  staticTypes := #[]
  resolved := Array.replicate 124 none
  statics := none }

def pool1 : Array CpInfo := pool [(2, .class_ 4), (1, u "java/lang/Object"), (0, u "<init>"), (0, u "()V"), (0, .class_ 8), (0, u "com/example/cranfield/cranfield/index/Postings"), (0, .methodref 7 10), (0, .nameAndType 5 11), (0, u "([I[I[I)V"), (0, .methodref 7 13), (0, .nameAndType 14 15), (0, u "positionCount"), (0, u "()I"), (0, .methodref 7 17), (0, .nameAndType 18 19), (0, u "hasPositions"), (0, u "()Z"), (0, .class_ 21), (0, u "com/example/cranfield/cranfield/index/PostingsPositionCountPinLaw"), (2, u "law"), (0, u "(IIIIII)Z")] 5

def k1m0 : Method := { name := "<init>", desc := "()V", sig := { parameters := [], returnType := none }, accessFlags := 1, code := none }
def k1c1 : Code := { maxStack := 5, maxLocals := 17, code := code, exceptionTable := #[], attributes := #[] }
def k1m1 : Method := { name := "law", desc := "(IIIIII)Z", sig := { parameters := [.int, .int, .int, .int, .int, .int], returnType := some .boolean }, accessFlags := 9, code := some k1c1 }
/-- com/example/cranfield/cranfield/index/PostingsPositionCountPinLaw -/
def k1 : Class := { plain "com/example/cranfield/cranfield/index/PostingsPositionCountPinLaw" (some 0) with
  accessFlags := 49
  interfaces := #[]
  cf := some (fileOf pool1 20 #[] #[{ accessFlags := 1, nameIndex := 5, descriptorIndex := 6, attributes := #[] }, { accessFlags := 9, nameIndex := 24, descriptorIndex := 25, attributes := #[] }] 49 2 #[] #[])
  fields := #[]
  methods := #[k1m0, k1m1]
  instanceTypes := #[]
  staticTypes := #[]
  resolved := Array.replicate 31 none
  statics := none }

def pool2 : Array CpInfo := pool [(1, .methodref 2 3), (0, .class_ 4), (0, .nameAndType 5 6), (0, u "java/lang/Object"), (0, u "<init>"), (0, u "()V"), (0, .fieldref 8 9), (0, .class_ 10), (0, .nameAndType 11 12), (0, u "com/example/cranfield/cranfield/index/Postings"), (0, u "documents"), (0, u "[I"), (0, .fieldref 8 14), (0, .nameAndType 15 12), (0, u "frequencies"), (0, .fieldref 8 17), (0, .nameAndType 18 12), (0, u "positions"), (0, .fieldref 8 20), (0, .nameAndType 21 12), (0, u "firstPositions"), (9, u "([I[I[I)V"), (2, u "EMPTY"), (0, u "Lcom/example/cranfield/cranfield/index/Postings;"), (5, u "()I"), (3, u "hasPositions"), (0, u "()Z"), (2, u "positionCount")] 3

def k2c0 : Code := { maxStack := 6, maxLocals := 5, code := prog_68_method_1_code, exceptionTable := #[], attributes := #[] }
def k2m0 : Method := { name := "<init>", desc := "([I[I[I)V", sig := { parameters := [(.array .int), (.array .int), (.array .int)], returnType := none }, accessFlags := 0, code := some k2c0 }
def k2c1 : Code := { maxStack := 1, maxLocals := 1, code := prog_68_method_5_code, exceptionTable := #[], attributes := #[] }
def k2m1 : Method := { name := "hasPositions", desc := "()Z", sig := { parameters := [], returnType := some .boolean }, accessFlags := 1, code := some k2c1 }
def k2c2 : Code := { maxStack := 1, maxLocals := 1, code := prog_68_method_7_code, exceptionTable := #[], attributes := #[] }
def k2m2 : Method := { name := "positionCount", desc := "()I", sig := { parameters := [], returnType := some .int }, accessFlags := 0, code := some k2c2 }
/-- com/example/cranfield/cranfield/index/Postings -/
def k2 : Class := { plain "com/example/cranfield/cranfield/index/Postings" (some 0) with
  accessFlags := 49
  interfaces := #[]
  cf := some (fileOf pool2 8 #[] #[{ accessFlags := 0, nameIndex := 5, descriptorIndex := 31, attributes := #[] }, { accessFlags := 1, nameIndex := 45, descriptorIndex := 46, attributes := #[] }, { accessFlags := 0, nameIndex := 49, descriptorIndex := 41, attributes := #[] }] 49 2 #[] #[{ accessFlags := 24, nameIndex := 34, descriptorIndex := 35, attributes := #[] }, { accessFlags := 18, nameIndex := 11, descriptorIndex := 12, attributes := #[] }, { accessFlags := 18, nameIndex := 15, descriptorIndex := 12, attributes := #[] }, { accessFlags := 18, nameIndex := 18, descriptorIndex := 12, attributes := #[] }, { accessFlags := 18, nameIndex := 21, descriptorIndex := 12, attributes := #[] }])
  fields := #[{ name := "EMPTY", type := (.object "com/example/cranfield/cranfield/index/Postings"), accessFlags := 24, slot := 0, constantValue := 0 }, { name := "documents", type := (.array .int), accessFlags := 18, slot := 0, constantValue := 0 }, { name := "frequencies", type := (.array .int), accessFlags := 18, slot := 1, constantValue := 0 }, { name := "positions", type := (.array .int), accessFlags := 18, slot := 2, constantValue := 0 }, { name := "firstPositions", type := (.array .int), accessFlags := 18, slot := 3, constantValue := 0 }]
  methods := #[k2m0, k2m1, k2m2]
  instanceTypes := #[(.array .int), (.array .int), (.array .int), (.array .int)]
  staticTypes := #[(.object "com/example/cranfield/cranfield/index/Postings")]
  resolved := Array.replicate 53 none
  statics := none }

def pool3 : Array CpInfo := pool [(1, u "java/lang/Cloneable"), (0, .class_ 1), (0, u "java/lang/Object"), (0, .class_ 3)] 3

/-- java/lang/Cloneable -/
def k3 : Class := { plain "java/lang/Cloneable" (some 0) with
  accessFlags := 1537
  interfaces := #[]
  cf := some (fileOf pool3 2 #[] #[] 1537 4 #[] #[])
  fields := #[]
  methods := #[]
  instanceTypes := #[]
  staticTypes := #[]
  resolved := Array.replicate 8 none
  statics := none }

def pool4 : Array CpInfo := pool [(1, u "java/io/Serializable"), (0, .class_ 1), (0, u "java/lang/Object"), (0, .class_ 3)] 3

/-- java/io/Serializable -/
def k4 : Class := { plain "java/io/Serializable" (some 0) with
  accessFlags := 1537
  interfaces := #[]
  cf := some (fileOf pool4 2 #[] #[] 1537 4 #[] #[])
  fields := #[]
  methods := #[]
  instanceTypes := #[]
  staticTypes := #[]
  resolved := Array.replicate 8 none
  statics := none }

/-- the primitive byte -/
def k5 : Class := { plain "byte" none with kind := .primitive 'B', accessFlags := 0x411 }
/-- [B -/
def k6 : Class := { plain "[B" (some 0) with kind := .array 5 .byte, interfaces := #[3, 4], accessFlags := 1041 }

/-- the primitive int -/
def k7 : Class := { plain "int" none with kind := .primitive 'I', accessFlags := 0x411 }
/-- [I -/
def k8 : Class := { plain "[I" (some 0) with kind := .array 7 .int, interfaces := #[3, 4], accessFlags := 1041 }

def heap : Heap := #[]
def classes : Array Class := #[k0, k1, k2, k3, k4, k5, k6, k7, k8]
def interned : List (Array UInt16 × Addr) := []
def slotsUsed : Nat := 0
def theMethod : MethodId := ⟨1, 1⟩
def args0 : Array Value := #[.int 5, .int 6, .int 7, .int 8, .int 9, .int 3]
def aboutOver (below : List Frame) : State where
  vm := { classes := classes, interned := interned.toArray }
  heap := heap
  slotsUsed := slotsUsed
  threads := #[{ frames := .invoking theMethod args0 :: below }]
def below0 : List Frame := [.native { method := ⟨0, 0⟩, args := #[] }]
def about1 : State := aboutOver below0
def p0 : Program := .bare "" "" ""
def e0 : Env := launch0.env 0 0 0
theorem w_frames : about1.frames = Frame.invoking theMethod args0 :: below0 := rfl
set_option maxRecDepth 65536 in
theorem w_args : argsFit about1.vm theMethod args0 = true := by decide +kernel
set_option maxRecDepth 65536 in
theorem w_heap : heapFits about1 = true := by decide +kernel
set_option maxRecDepth 65536 in
theorem w_runnable : about1.curStatus? = some .runnable := by decide +kernel
set_option maxRecDepth 65536 in
theorem w_alone : about1.alone = true := by decide +kernel
set_option maxRecDepth 65536 in
theorem w_named : about1.methodNamed? x = some theMethod := by decide +kernel
set_option maxRecDepth 65536 in
theorem w_hears : about1.hears theMethod below0 = true := by decide +kernel
set_option maxRecDepth 65536 in
theorem w_ripe : about1.ripe theMethod args0 below0 = true := by decide +kernel
theorem w_running : about1.status = .running := rfl
set_option maxRecDepth 65536 in
theorem w_room : about1.hasRoom e0.platform room_1 = true :=
  launch0.hasRoom_least _ room_1 (by decide +kernel) (by decide +kernel) (by decide +kernel) (by decide +kernel) (by decide +kernel) (by decide +kernel)
theorem allAtoms_all (ts : List Jvm.Cond) (a : Array Jvm.Value) (st : Jvm.State) : (allAtoms ts).before a st = ts.all (fun c => c.before a st) := by
  induction ts with
  | nil => rfl
  | cons c t ih =>
    show (Jvm.Cond.and c (allAtoms t)).before a st = _
    rw [Jvm.Cond.before_and, ih, List.all_cons]
def words1 : List Jvm.Cond := Jvm.Cond.code x code maxLocals ret :: tables_1
/-- a 'code' word, met by the world's own term for the bytes: nothing is compared byte by byte -/
theorem code_word {y : MethodName} {bytes : ByteArray} {mx : Nat} {rt : Option FieldType} {a : Array Value} {s : State} {m : MethodId} {meth : Method} {c : Code} (h1 : s.methodNamed? y = some m) (h2 : s.vm.method? m = some meth) (h3 : meth.code = some c) (h4 : c.code = bytes)
    (h5 : (c.maxLocals == mx && c.exceptionTable.isEmpty && decide (c.maxStack ≤ mostOperands) && decide (meth.sig.returnType = rt) && !meth.locks && decide (parseMethodDescriptor y.desc = some meth.sig)) = true) : (Jvm.Cond.code y bytes mx rt).before a s = true := by
  simp only [Bool.and_eq_true, beq_iff_eq, Bool.not_eq_true', decide_eq_true_eq] at h5
  obtain ⟨⟨⟨⟨⟨g1, g2⟩, g3⟩, g4⟩, g5⟩, g6⟩ := h5
  simp [Cond.before, Cond.holds, Cond.value, h1, h2, h3, h4, g1, g2, g3, g4, g5, g6]
def isCode : Jvm.Cond → Bool
  | .code _ _ _ _ => true
  | _ => false
theorem all_split {L : List Jvm.Cond} {P : Jvm.Cond → Bool} (h1 : L.all (fun c => isCode c || P c) = true) (h2 : ∀ c ∈ L.filter isCode, P c = true) : L.all P = true := by
  refine List.all_eq_true.mpr fun c hc => ?_
  have h := List.all_eq_true.mp h1 c hc
  rcases Bool.eq_false_or_eq_true (isCode c) with hi | hi
  · exact h2 c (List.mem_filter.mpr ⟨hc, hi⟩)
  · simpa [hi] using h
set_option maxRecDepth 65536 in
theorem w_c0 : (Jvm.Cond.code x code maxLocals ret).before args0 about1 = true := code_word (m := ⟨1, 1⟩) (meth := k1m1) (c := k1c1) (by decide +kernel) rfl rfl rfl (by decide +kernel)
set_option maxRecDepth 65536 in
theorem w_c1 : (Jvm.Cond.code ({ cls := "com/example/cranfield/cranfield/index/Postings", name := "<init>", desc := "([I[I[I)V" } : Jvm.MethodName) prog_68_method_1_code (5 : Nat) (Option.none : Option Jvm.ClassFile.FieldType)).before args0 about1 = true := code_word (m := ⟨2, 0⟩) (meth := k2m0) (c := k2c0) (by decide +kernel) rfl rfl rfl (by decide +kernel)
set_option maxRecDepth 65536 in
theorem w_c2 : (Jvm.Cond.code ({ cls := "java/lang/Object", name := "<init>", desc := "()V" } : Jvm.MethodName) object_method_1_code (1 : Nat) (Option.none : Option Jvm.ClassFile.FieldType)).before args0 about1 = true := code_word (m := ⟨0, 0⟩) (meth := k0m0) (c := k0c0) (by decide +kernel) rfl rfl rfl (by decide +kernel)
set_option maxRecDepth 65536 in
theorem w_c3 : (Jvm.Cond.code ({ cls := "com/example/cranfield/cranfield/index/Postings", name := "positionCount", desc := "()I" } : Jvm.MethodName) prog_68_method_7_code (1 : Nat) (Option.some Jvm.ClassFile.FieldType.int)).before args0 about1 = true := code_word (m := ⟨2, 2⟩) (meth := k2m2) (c := k2c2) (by decide +kernel) rfl rfl rfl (by decide +kernel)
set_option maxRecDepth 65536 in
theorem w_c4 : (Jvm.Cond.code ({ cls := "com/example/cranfield/cranfield/index/Postings", name := "hasPositions", desc := "()Z" } : Jvm.MethodName) prog_68_method_5_code (1 : Nat) (Option.some Jvm.ClassFile.FieldType.boolean)).before args0 about1 = true := code_word (m := ⟨2, 1⟩) (meth := k2m1) (c := k2c1) (by decide +kernel) rfl rfl rfl (by decide +kernel)
def codes1 : List Jvm.Cond := [Jvm.Cond.code x code maxLocals ret, Jvm.Cond.code ({ cls := "com/example/cranfield/cranfield/index/Postings", name := "<init>", desc := "([I[I[I)V" } : Jvm.MethodName) prog_68_method_1_code (5 : Nat) (Option.none : Option Jvm.ClassFile.FieldType), Jvm.Cond.code ({ cls := "java/lang/Object", name := "<init>", desc := "()V" } : Jvm.MethodName) object_method_1_code (1 : Nat) (Option.none : Option Jvm.ClassFile.FieldType), Jvm.Cond.code ({ cls := "com/example/cranfield/cranfield/index/Postings", name := "positionCount", desc := "()I" } : Jvm.MethodName) prog_68_method_7_code (1 : Nat) (Option.some Jvm.ClassFile.FieldType.int), Jvm.Cond.code ({ cls := "com/example/cranfield/cranfield/index/Postings", name := "hasPositions", desc := "()Z" } : Jvm.MethodName) prog_68_method_5_code (1 : Nat) (Option.some Jvm.ClassFile.FieldType.boolean)]
set_option maxRecDepth 65536 in
theorem codes_eq : words1.filter isCode = codes1 := rfl
theorem w_codes : ∀ c ∈ words1.filter isCode, c.before args0 about1 = true := by
  rw [codes_eq]
  intro c hc
  simp only [codes1, List.mem_cons, List.not_mem_nil, or_false] at hc
  rcases hc with rfl | rfl | rfl | rfl | rfl
  · exact w_c0
  · exact w_c1
  · exact w_c2
  · exact w_c3
  · exact w_c4
set_option maxRecDepth 65536 in
theorem w_t1 : (words1.take 24).all (fun c => isCode c || c.before args0 about1) = true := by decide +kernel
set_option maxRecDepth 65536 in
theorem w_t2 : (words1.drop 24).all (fun c => isCode c || c.before args0 about1) = true := by decide +kernel
theorem w_tables : (allAtoms (Jvm.Cond.code x code maxLocals ret :: tables_1)).before args0 about1 = true := by
  rw [allAtoms_all]
  show words1.all (fun c => c.before args0 about1) = true
  refine all_split ?_ w_codes
  rw [← List.take_append_drop 24 words1, List.all_append, w_t1, w_t2]
  rfl
set_option maxRecDepth 65536 in
theorem w_case : (Jvm.Cond.and given_1 narrow_1).before args0 about1 = true := by decide +kernel
theorem w_applies : (headSpec (Jvm.Cond.code x code maxLocals ret :: tables_1) room_1).applies x e0.platform about1 = true :=
  (Spec.applies_iff w_frames).mpr ⟨w_running, w_runnable, w_alone, w_named, w_hears, w_ripe, w_room, w_tables⟩
theorem atStart : AtStart classFile x code maxLocals ret World_1 tables_1 room_1 Calls_1 rest_1 Pre_1 launch0 p0 e0 about1 theMethod args0 below0 :=
  ⟨lists_1, trivial, launch0.admits_env _ _ _, launch0.least_env, fairChoices_fair.cas, fairChoices_fair.clock, w_frames, w_args, w_heap, w_applies, trivial, trivial, w_case⟩
end start1
theorem witness_1 : WitnessClaimed_1 := ⟨start1.p0, start1.e0, start1.about1, start1.theMethod, start1.args0, start1.below0, start1.atStart⟩
end Jvm.Pilot.@@N@@
