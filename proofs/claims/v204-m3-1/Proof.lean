import JvmDerived
import JvmDerived.Pilot.@@N@@Statement
import JvmDerived.Pilot.@@N@@Code
set_option linter.unusedVariables false
set_option linter.unusedSimpArgs false

namespace Jvm.RoadKit
open Sem ClassFile Op Lib Jvm.Stand Jvm.Free Jvm.LawKit
section New
variable {p : Program} {l : Launch} {e : Env} {R : Room} {s : State} {m : MethodId} {args : Array Value} {below : List Frame} {meth : Method} {c : Code} {T : State} {locs : List Loc} {cells slots : Nat}
theorem retI (X : Stand p l e R s m args below meth c T locs cells slots) (hx : p.tables.exec = Jvm.exec) {pc : Nat} {Ls : Array Slot} {z : Int32} {rest : List Value} (hret : meth.sig.returnType = some .int) (hd : decode c.code pc = .ok (.ireturn, 1)) {fs : List Frame}
    (hl : ∀ (f : JFrame) (acts : List Action), f.method = m → f.locked = none → f.entered = [] → (doReturn e (T.setTop f) acts (some (.int z))).1 = T.setFrames fs) : Steps p.tables e below (T.setTop (mkF m pc Ls (.int z :: rest))) (T.setFrames fs) := by
  have hm' : T.vm.method? m = some meth := X.method'
  have hn : narrow .int (.int z) = .int z := rfl
  show Steps p.tables e below (T.setTop { method := m, pc := pc, locals := Ls, stack := _ :: rest, locked := none }) _
  jvm_step X.here [X.here.top, hx, hd, hm', hret, hn]
  first | (intro acts; rw [hl _ acts rfl rfl rfl]) | rw [hl _ _ rfl rfl rfl]
  exact Steps.refl _
end New
end Jvm.RoadKit
namespace Jvm.Pilot.@@N@@
open Jvm Jvm.ClassFile Sem Op Lib Jvm.Free Jvm.Stand Jvm.LawKit Jvm.RoadKit Bundle Jvm.Pilot.@@N@@.Jvm.D
/-- a body that returns r, makes and writes nothing -/
def QP (r : Value) (h0 : Heap) (n0 : Nat) (v : Option Value) (h : Heap) (L : List Loc) : Prop := v = some r ∧ Fr n0 L ∧ h = h0
theorem own_d_prog_25_method_4_code_0 : decode prog_25_method_4_code 0 = .ok (.iload_n 0, 1) := by decide +kernel
theorem own_d_prog_25_method_4_code_1 : decode prog_25_method_4_code 1 = .ok (.ifCond .ge 7, 3) := by decide +kernel
theorem own_d_prog_25_method_4_code_4 : decode prog_25_method_4_code 4 = .ok (.getstatic 3, 3) := by decide +kernel
theorem own_d_prog_25_method_4_code_7 : decode prog_25_method_4_code 7 = .ok (.areturn, 1) := by decide +kernel
theorem own_d_prog_25_method_4_code_8 : decode prog_25_method_4_code 8 = .ok (.iload_n 0, 1) := by decide +kernel
theorem own_d_prog_25_method_4_code_9 : decode prog_25_method_4_code 9 = .ok (.ifCond .ne 9, 3) := by decide +kernel
theorem own_d_prog_25_method_4_code_12 : decode prog_25_method_4_code 12 = .ok (.getstatic 7, 3) := by decide +kernel
theorem own_d_prog_25_method_4_code_15 : decode prog_25_method_4_code 15 = .ok (.goto 6, 3) := by decide +kernel
theorem own_d_prog_25_method_4_code_21 : decode prog_25_method_4_code 21 = .ok (.areturn, 1) := by decide +kernel
theorem own_d_prog_25_method_4_code_18 : decode prog_25_method_4_code 18 = .ok (.getstatic 10, 3) := by decide +kernel
theorem own_pd0 : parseMethodDescriptor "(I)Lcom/example/datewarden/datewarden/Order;" = some ⟨[.int], some (.object "com/example/datewarden/datewarden/Order")⟩ := by decide +kernel
theorem own_pn0 : plainName "com/example/datewarden/datewarden/Order" = true := by first | (simp [plainName, overriddenIn]; done) | decide +kernel
theorem own_pn1 : plainName "com/example/datewarden/datewarden/OrderOfSignPinLaw" = true := by first | (simp [plainName, overriddenIn]; done) | decide +kernel
def QL (n0 : Nat) (v : Option Value) (h : Heap) (L : List Loc) : Prop := v = some (.int 1) ∧ Fr n0 L
theorem own_intv {args : Array Value} {Z : State} {t : Term} {k : Int32} (h : (Cond.eq t (.int k)).value args Z none Z [] = some true) : t.eval args Z none [] Z = some (.int k) := by
  obtain ⟨x, y, e1, e2, -, k2⟩ := cmp_v (Or.inl h)
  have e2' : some (Value.int k) = some y := e2
  cases e2'
  obtain ⟨z, rfl⟩ := k2
  have q := gotT (Cond.eq_ints e1 (Term.int_eval k)) h
  rw [← q]; exact e1
theorem own_fldI {args : Array Value} {Z : State} {t : Term} {C n d : String} {k : Int32} {a : Addr} (ht : t.eval args Z none [] Z = some (.ref a)) (h : (Cond.eq (.field t C n d) (.int k)).value args Z none Z [] = some true) : Fld Z Z.heap a C n d (.int k) :=
  Fld.start ((fld_at ht).symm.trans (own_intv h))
theorem own_sign (p : Int32) : p < 0 ∨ p = 0 ∨ (0 : Int32) < p := by
  rw [Int32.lt_iff_toInt_lt, Int32.lt_iff_toInt_lt, ← Int32.toInt_inj]; omega
theorem own_z0 {p : Int32} (h : p = 0) : ¬ (p < (0 : Int32)) := by subst h; decide
theorem own_p0 {p : Int32} (h : (0 : Int32) < p) : ¬ (p < (0 : Int32)) := by rw [Int32.lt_iff_toInt_lt] at *; omega
theorem own_pn {p : Int32} (h : (0 : Int32) < p) : ¬ (p = (0 : Int32)) := fun q => by subst q; exact absurd h (by decide)
theorem own_np {p : Int32} (h : p < (0 : Int32)) : ¬ ((0 : Int32) < p) := by rw [Int32.lt_iff_toInt_lt] at *; omega
theorem own_nn {p : Int32} (h : p < (0 : Int32)) : ¬ (p = (0 : Int32)) := fun q => by subst q; exact absurd h (by decide)
theorem own_zp {p : Int32} (h : p = 0) : ¬ ((0 : Int32) < p) := by subst h; decide
theorem own_ef_rm1n (m : MethodId) (y0 : Int32) : entryFrame m #[(.int y0)] 1 = mkF m 0 #[.val (.int y0)] [] := by first | (simp [entryFrame, mkF, argsToLocals, Value.category]; done) | rfl
set_option maxRecDepth 65536 in
set_option maxHeartbeats 40000000 in
theorem rm1n (l : Launch) (Z : State) (a0 : Array Value) (hw : ∀ d ∈ tables_1, d.before a0 Z = true) (ws : List Jvm.Cond) (p1 : Int32) (a_EQUAL : Addr) (a_GREATER : Addr) (a_LESS : Addr) (h0 : Heap) (n0 : Nat) (Z0 : n0 ≤ h0.size) (hs : p1 < 0) (S_EQUAL : Sta Z h0 "com/example/datewarden/datewarden/Order" "EQUAL" "Lcom/example/datewarden/datewarden/Order;" (.ref a_EQUAL)) (E_EQUAL : Exa Z h0 a_EQUAL "com/example/datewarden/datewarden/Order") (S_GREATER : Sta Z h0 "com/example/datewarden/datewarden/Order" "GREATER" "Lcom/example/datewarden/datewarden/Order;" (.ref a_GREATER)) (E_GREATER : Exa Z h0 a_GREATER "com/example/datewarden/datewarden/Order") (S_LESS : Sta Z h0 "com/example/datewarden/datewarden/Order" "LESS" "Lcom/example/datewarden/datewarden/Order;" (.ref a_LESS)) (E_LESS : Exa Z h0 a_LESS "com/example/datewarden/datewarden/Order") :
    MetFree l (⟨"com/example/datewarden/datewarden/Order", "ofSign", "(I)Lcom/example/datewarden/datewarden/Order;"⟩ : MethodName) (head1 (Jvm.Cond.code (⟨"com/example/datewarden/datewarden/Order", "ofSign", "(I)Lcom/example/datewarden/datewarden/Order;"⟩ : MethodName) prog_25_method_4_code 1 (some (.object "com/example/datewarden/datewarden/Order")) :: ws) ({ frames := 0, cells := 0, slots := 0, locals := 0 } : Room)) (fun a U => a = #[(.int p1)] ∧ Z.Warmed39 U.vm ∧ U.heap = h0) (fun _ _ _ _ _ => True) (fun _ U o U' => ∃ v L, o = .returned v ∧ QP (.ref a_LESS) h0 n0 v U'.heap L ∧ FrameEnd U o U' L ({ frames := 0, cells := 0, slots := 0, locals := 0 } : Room).cells ({ frames := 0, cells := 0, slots := 0, locals := 0 } : Room).slots) := by
  refine MetFree.of_bodySF (plainFor_of_name own_pn0) hisR ?_
  intro p e s m args below meth c s₁ Bd hml0 hP hK
  obtain ⟨rfl, hZ, hh⟩ := hP
  have hx := Bd.exec
  have hby := Bd.bytes
  have hml : c.maxLocals = 1 := hml0
  have hown : s.vm.findClass "com/example/datewarden/datewarden/Order" = some m.cls := findClass_of_methodNamed Bd.named
  have hnm := (name_of_methodNamed Bd.named Bd.method).1
  have X0 : Stand p l e ({ frames := 0, cells := 0, slots := 0, locals := 0 } : Room) s m #[(.int p1)] below meth c s₁ [] 0 0 := Stand.of_body Bd
  have e0 : s₁.heap = h0 := by rw [← hh, Bd.state]; rfl
  have N0 := Fr.nil n0
  have pre0 : ∀ t, Steps p.tables e below (s₁.setTop (mkF m 0 #[.val (.int p1)] [])) t → Steps p.tables e below (s₁.setTop (entryFrame m #[(.int p1)] 1)) t := fun t k => castTop (own_ef_rm1n m p1) k
  obtain ⟨T1, X1, e1, st1⟩ := getS2 X0 hx hZ hown (host := "") (Or.inl (hw _ (List.mem_of_getElem? (i := 10) rfl))) Via.refl e0 S_LESS (g := (mkF m 4 #[.val (.int p1)] [])) rfl (hb hby own_d_prog_25_method_4_code_4)
  have pre2 : ∀ t, Steps p.tables e below (T1.setTop (mkF m 7 #[.val (.int p1)] [(.ref a_LESS)])) t → Steps p.tables e below (s₁.setTop (entryFrame m #[(.int p1)] 1)) t := fun t k => pre0 t (by
    show Steps p.tables e below (s₁.setTop (mkF m 0 #[.val (.int p1)] [])) _
    refine XS.iloadN X0.here hx rfl (hb hby own_d_prog_25_method_4_code_0) rfl ?_
    show Steps p.tables e below (s₁.setTop (mkF m 1 #[.val (.int p1)] [(.int p1)])) _
    refine XS.ifNo X0.here hx rfl (hb hby own_d_prog_25_method_4_code_1) rfl ((if0 _ _).trans (tlt (hs : p1 < (0 : Int32))).2.1) ?_
    show Steps p.tables e below (s₁.setTop (mkF m 4 #[.val (.int p1)] [])) _
    refine st1 _ ?_
    exact k)
  obtain ⟨fs, hr, hrun, hended, hW, hsame⟩ := X1.leave (v := some (.ref a_LESS)) (fun h => by rw [Bd.returns] at h; cases h)
  refine ⟨_, _, pre2 _ ?_, hrun, hended, _, _, rfl, ?_, ⟨_, rfl⟩, hW, hsame.mono (by decide) (by decide)⟩
  · show Steps p.tables e below (T1.setTop (mkF m 7 #[.val (.int p1)] [(.ref a_LESS)])) _
    exact retOut X1 hx (t := (.object "com/example/datewarden/datewarden/Order")) (i := .areturn) Bd.returns rfl (Or.inr (Or.inr (Or.inr (Or.inr ⟨rfl, rfl, rfl⟩)))) (hb hby own_d_prog_25_method_4_code_7) hr
  · show QP (.ref a_LESS) h0 n0 _ T1.heap _
    rw [e1]
    exact ⟨rfl, N0, rfl⟩
theorem own_ef_rm1z (m : MethodId) (y0 : Int32) : entryFrame m #[(.int y0)] 1 = mkF m 0 #[.val (.int y0)] [] := by first | (simp [entryFrame, mkF, argsToLocals, Value.category]; done) | rfl
set_option maxRecDepth 65536 in
set_option maxHeartbeats 40000000 in
theorem rm1z (l : Launch) (Z : State) (a0 : Array Value) (hw : ∀ d ∈ tables_1, d.before a0 Z = true) (ws : List Jvm.Cond) (p1 : Int32) (a_EQUAL : Addr) (a_GREATER : Addr) (a_LESS : Addr) (h0 : Heap) (n0 : Nat) (Z0 : n0 ≤ h0.size) (hs : p1 = 0) (S_EQUAL : Sta Z h0 "com/example/datewarden/datewarden/Order" "EQUAL" "Lcom/example/datewarden/datewarden/Order;" (.ref a_EQUAL)) (E_EQUAL : Exa Z h0 a_EQUAL "com/example/datewarden/datewarden/Order") (S_GREATER : Sta Z h0 "com/example/datewarden/datewarden/Order" "GREATER" "Lcom/example/datewarden/datewarden/Order;" (.ref a_GREATER)) (E_GREATER : Exa Z h0 a_GREATER "com/example/datewarden/datewarden/Order") (S_LESS : Sta Z h0 "com/example/datewarden/datewarden/Order" "LESS" "Lcom/example/datewarden/datewarden/Order;" (.ref a_LESS)) (E_LESS : Exa Z h0 a_LESS "com/example/datewarden/datewarden/Order") :
    MetFree l (⟨"com/example/datewarden/datewarden/Order", "ofSign", "(I)Lcom/example/datewarden/datewarden/Order;"⟩ : MethodName) (head1 (Jvm.Cond.code (⟨"com/example/datewarden/datewarden/Order", "ofSign", "(I)Lcom/example/datewarden/datewarden/Order;"⟩ : MethodName) prog_25_method_4_code 1 (some (.object "com/example/datewarden/datewarden/Order")) :: ws) ({ frames := 0, cells := 0, slots := 0, locals := 0 } : Room)) (fun a U => a = #[(.int p1)] ∧ Z.Warmed39 U.vm ∧ U.heap = h0) (fun _ _ _ _ _ => True) (fun _ U o U' => ∃ v L, o = .returned v ∧ QP (.ref a_EQUAL) h0 n0 v U'.heap L ∧ FrameEnd U o U' L ({ frames := 0, cells := 0, slots := 0, locals := 0 } : Room).cells ({ frames := 0, cells := 0, slots := 0, locals := 0 } : Room).slots) := by
  refine MetFree.of_bodySF (plainFor_of_name own_pn0) hisR ?_
  intro p e s m args below meth c s₁ Bd hml0 hP hK
  obtain ⟨rfl, hZ, hh⟩ := hP
  have hx := Bd.exec
  have hby := Bd.bytes
  have hml : c.maxLocals = 1 := hml0
  have hown : s.vm.findClass "com/example/datewarden/datewarden/Order" = some m.cls := findClass_of_methodNamed Bd.named
  have hnm := (name_of_methodNamed Bd.named Bd.method).1
  have X0 : Stand p l e ({ frames := 0, cells := 0, slots := 0, locals := 0 } : Room) s m #[(.int p1)] below meth c s₁ [] 0 0 := Stand.of_body Bd
  have e0 : s₁.heap = h0 := by rw [← hh, Bd.state]; rfl
  have N0 := Fr.nil n0
  have pre0 : ∀ t, Steps p.tables e below (s₁.setTop (mkF m 0 #[.val (.int p1)] [])) t → Steps p.tables e below (s₁.setTop (entryFrame m #[(.int p1)] 1)) t := fun t k => castTop (own_ef_rm1z m p1) k
  obtain ⟨T1, X1, e1, st1⟩ := getS2 X0 hx hZ hown (host := "") (Or.inl (hw _ (List.mem_of_getElem? (i := 4) rfl))) Via.refl e0 S_EQUAL (g := (mkF m 12 #[.val (.int p1)] [])) rfl (hb hby own_d_prog_25_method_4_code_12)
  have pre2 : ∀ t, Steps p.tables e below (T1.setTop (mkF m 21 #[.val (.int p1)] [(.ref a_EQUAL)])) t → Steps p.tables e below (s₁.setTop (entryFrame m #[(.int p1)] 1)) t := fun t k => pre0 t (by
    show Steps p.tables e below (s₁.setTop (mkF m 0 #[.val (.int p1)] [])) _
    refine XS.iloadN X0.here hx rfl (hb hby own_d_prog_25_method_4_code_0) rfl ?_
    show Steps p.tables e below (s₁.setTop (mkF m 1 #[.val (.int p1)] [(.int p1)])) _
    refine XS.ifYes X0.here hx rfl (pc0 := 1) (pc' := 8) rfl (hb hby own_d_prog_25_method_4_code_1) rfl ((if0 _ _).trans (flt ((own_z0 hs) : ¬ (p1 < (0 : Int32)))).2.1) (by decide) (by decide) ?_
    show Steps p.tables e below (s₁.setTop (mkF m 8 #[.val (.int p1)] [])) _
    refine XS.iloadN X0.here hx rfl (hb hby own_d_prog_25_method_4_code_8) rfl ?_
    show Steps p.tables e below (s₁.setTop (mkF m 9 #[.val (.int p1)] [(.int p1)])) _
    refine XS.ifNo X0.here hx rfl (hb hby own_d_prog_25_method_4_code_9) rfl ((if0 _ _).trans (teq (hs : p1 = (0 : Int32))).2) ?_
    show Steps p.tables e below (s₁.setTop (mkF m 12 #[.val (.int p1)] [])) _
    refine st1 _ ?_
    show Steps p.tables e below (T1.setTop (mkF m 15 #[.val (.int p1)] [(.ref a_EQUAL)])) _
    refine XS.goto X1.here hx rfl (pc0 := 15) (pc' := 21) rfl (hb hby own_d_prog_25_method_4_code_15) (by decide) (by decide) ?_
    exact k)
  obtain ⟨fs, hr, hrun, hended, hW, hsame⟩ := X1.leave (v := some (.ref a_EQUAL)) (fun h => by rw [Bd.returns] at h; cases h)
  refine ⟨_, _, pre2 _ ?_, hrun, hended, _, _, rfl, ?_, ⟨_, rfl⟩, hW, hsame.mono (by decide) (by decide)⟩
  · show Steps p.tables e below (T1.setTop (mkF m 21 #[.val (.int p1)] [(.ref a_EQUAL)])) _
    exact retOut X1 hx (t := (.object "com/example/datewarden/datewarden/Order")) (i := .areturn) Bd.returns rfl (Or.inr (Or.inr (Or.inr (Or.inr ⟨rfl, rfl, rfl⟩)))) (hb hby own_d_prog_25_method_4_code_21) hr
  · show QP (.ref a_EQUAL) h0 n0 _ T1.heap _
    rw [e1]
    exact ⟨rfl, N0, rfl⟩
theorem own_ef_rm1p (m : MethodId) (y0 : Int32) : entryFrame m #[(.int y0)] 1 = mkF m 0 #[.val (.int y0)] [] := by first | (simp [entryFrame, mkF, argsToLocals, Value.category]; done) | rfl
set_option maxRecDepth 65536 in
set_option maxHeartbeats 40000000 in
theorem rm1p (l : Launch) (Z : State) (a0 : Array Value) (hw : ∀ d ∈ tables_1, d.before a0 Z = true) (ws : List Jvm.Cond) (p1 : Int32) (a_EQUAL : Addr) (a_GREATER : Addr) (a_LESS : Addr) (h0 : Heap) (n0 : Nat) (Z0 : n0 ≤ h0.size) (hs : (0 : Int32) < p1) (S_EQUAL : Sta Z h0 "com/example/datewarden/datewarden/Order" "EQUAL" "Lcom/example/datewarden/datewarden/Order;" (.ref a_EQUAL)) (E_EQUAL : Exa Z h0 a_EQUAL "com/example/datewarden/datewarden/Order") (S_GREATER : Sta Z h0 "com/example/datewarden/datewarden/Order" "GREATER" "Lcom/example/datewarden/datewarden/Order;" (.ref a_GREATER)) (E_GREATER : Exa Z h0 a_GREATER "com/example/datewarden/datewarden/Order") (S_LESS : Sta Z h0 "com/example/datewarden/datewarden/Order" "LESS" "Lcom/example/datewarden/datewarden/Order;" (.ref a_LESS)) (E_LESS : Exa Z h0 a_LESS "com/example/datewarden/datewarden/Order") :
    MetFree l (⟨"com/example/datewarden/datewarden/Order", "ofSign", "(I)Lcom/example/datewarden/datewarden/Order;"⟩ : MethodName) (head1 (Jvm.Cond.code (⟨"com/example/datewarden/datewarden/Order", "ofSign", "(I)Lcom/example/datewarden/datewarden/Order;"⟩ : MethodName) prog_25_method_4_code 1 (some (.object "com/example/datewarden/datewarden/Order")) :: ws) ({ frames := 0, cells := 0, slots := 0, locals := 0 } : Room)) (fun a U => a = #[(.int p1)] ∧ Z.Warmed39 U.vm ∧ U.heap = h0) (fun _ _ _ _ _ => True) (fun _ U o U' => ∃ v L, o = .returned v ∧ QP (.ref a_GREATER) h0 n0 v U'.heap L ∧ FrameEnd U o U' L ({ frames := 0, cells := 0, slots := 0, locals := 0 } : Room).cells ({ frames := 0, cells := 0, slots := 0, locals := 0 } : Room).slots) := by
  refine MetFree.of_bodySF (plainFor_of_name own_pn0) hisR ?_
  intro p e s m args below meth c s₁ Bd hml0 hP hK
  obtain ⟨rfl, hZ, hh⟩ := hP
  have hx := Bd.exec
  have hby := Bd.bytes
  have hml : c.maxLocals = 1 := hml0
  have hown : s.vm.findClass "com/example/datewarden/datewarden/Order" = some m.cls := findClass_of_methodNamed Bd.named
  have hnm := (name_of_methodNamed Bd.named Bd.method).1
  have X0 : Stand p l e ({ frames := 0, cells := 0, slots := 0, locals := 0 } : Room) s m #[(.int p1)] below meth c s₁ [] 0 0 := Stand.of_body Bd
  have e0 : s₁.heap = h0 := by rw [← hh, Bd.state]; rfl
  have N0 := Fr.nil n0
  have pre0 : ∀ t, Steps p.tables e below (s₁.setTop (mkF m 0 #[.val (.int p1)] [])) t → Steps p.tables e below (s₁.setTop (entryFrame m #[(.int p1)] 1)) t := fun t k => castTop (own_ef_rm1p m p1) k
  obtain ⟨T1, X1, e1, st1⟩ := getS2 X0 hx hZ hown (host := "") (Or.inl (hw _ (List.mem_of_getElem? (i := 7) rfl))) Via.refl e0 S_GREATER (g := (mkF m 18 #[.val (.int p1)] [])) rfl (hb hby own_d_prog_25_method_4_code_18)
  have pre2 : ∀ t, Steps p.tables e below (T1.setTop (mkF m 21 #[.val (.int p1)] [(.ref a_GREATER)])) t → Steps p.tables e below (s₁.setTop (entryFrame m #[(.int p1)] 1)) t := fun t k => pre0 t (by
    show Steps p.tables e below (s₁.setTop (mkF m 0 #[.val (.int p1)] [])) _
    refine XS.iloadN X0.here hx rfl (hb hby own_d_prog_25_method_4_code_0) rfl ?_
    show Steps p.tables e below (s₁.setTop (mkF m 1 #[.val (.int p1)] [(.int p1)])) _
    refine XS.ifYes X0.here hx rfl (pc0 := 1) (pc' := 8) rfl (hb hby own_d_prog_25_method_4_code_1) rfl ((if0 _ _).trans (flt ((own_p0 hs) : ¬ (p1 < (0 : Int32)))).2.1) (by decide) (by decide) ?_
    show Steps p.tables e below (s₁.setTop (mkF m 8 #[.val (.int p1)] [])) _
    refine XS.iloadN X0.here hx rfl (hb hby own_d_prog_25_method_4_code_8) rfl ?_
    show Steps p.tables e below (s₁.setTop (mkF m 9 #[.val (.int p1)] [(.int p1)])) _
    refine XS.ifYes X0.here hx rfl (pc0 := 9) (pc' := 18) rfl (hb hby own_d_prog_25_method_4_code_9) rfl ((if0 _ _).trans (feq ((own_pn hs) : ¬ (p1 = (0 : Int32)))).2) (by decide) (by decide) ?_
    show Steps p.tables e below (s₁.setTop (mkF m 18 #[.val (.int p1)] [])) _
    refine st1 _ ?_
    exact k)
  obtain ⟨fs, hr, hrun, hended, hW, hsame⟩ := X1.leave (v := some (.ref a_GREATER)) (fun h => by rw [Bd.returns] at h; cases h)
  refine ⟨_, _, pre2 _ ?_, hrun, hended, _, _, rfl, ?_, ⟨_, rfl⟩, hW, hsame.mono (by decide) (by decide)⟩
  · show Steps p.tables e below (T1.setTop (mkF m 21 #[.val (.int p1)] [(.ref a_GREATER)])) _
    exact retOut X1 hx (t := (.object "com/example/datewarden/datewarden/Order")) (i := .areturn) Bd.returns rfl (Or.inr (Or.inr (Or.inr (Or.inr ⟨rfl, rfl, rfl⟩)))) (hb hby own_d_prog_25_method_4_code_21) hr
  · show QP (.ref a_GREATER) h0 n0 _ T1.heap _
    rw [e1]
    exact ⟨rfl, N0, rfl⟩
theorem own_ef_rm0 (m : MethodId) (y0 : Int32) : entryFrame m #[(.int y0)] maxLocals = mkF m 0 #[.val (.int y0), .unset, .unset] [] := by first | (simp [entryFrame, mkF, argsToLocals, Value.category, maxLocals]; done) | rfl
set_option maxRecDepth 65536 in
set_option maxHeartbeats 40000000 in
theorem rm0 (l : Launch) (Z : State) (a0 : Array Value) (hw : ∀ d ∈ tables_1, d.before a0 Z = true) (ws : List Jvm.Cond) (p1 : Int32) (a_EQUAL : Addr) (a_GREATER : Addr) (a_LESS : Addr) (h0 : Heap) (n0 : Nat) (Z0 : n0 ≤ h0.size) (S_EQUAL : Sta Z h0 "com/example/datewarden/datewarden/Order" "EQUAL" "Lcom/example/datewarden/datewarden/Order;" (.ref a_EQUAL)) (E_EQUAL : Exa Z h0 a_EQUAL "com/example/datewarden/datewarden/Order") (S_GREATER : Sta Z h0 "com/example/datewarden/datewarden/Order" "GREATER" "Lcom/example/datewarden/datewarden/Order;" (.ref a_GREATER)) (E_GREATER : Exa Z h0 a_GREATER "com/example/datewarden/datewarden/Order") (S_LESS : Sta Z h0 "com/example/datewarden/datewarden/Order" "LESS" "Lcom/example/datewarden/datewarden/Order;" (.ref a_LESS)) (E_LESS : Exa Z h0 a_LESS "com/example/datewarden/datewarden/Order") :
    MetFree l x (head1 (Jvm.Cond.code x code maxLocals ret :: ws) room_1) (fun a U => a = #[(.int p1)] ∧ Z.Warmed39 U.vm ∧ U.heap = h0) (fun _ _ _ _ _ => True) (fun _ U o U' => ∃ v L, o = .returned v ∧ QL n0 v U'.heap L ∧ FrameEnd U o U' L 0 0) := by
  refine MetFree.of_bodySF (plainFor_of_name own_pn1) hisR ?_
  intro p e s m args below meth c s₁ Bd hml0 hP hK
  obtain ⟨rfl, hZ, hh⟩ := hP
  have hx := Bd.exec
  have hby := Bd.bytes
  have hml : c.maxLocals = 3 := hml0
  have hown : s.vm.findClass "com/example/datewarden/datewarden/OrderOfSignPinLaw" = some m.cls := findClass_of_methodNamed Bd.named
  have hnm := (name_of_methodNamed Bd.named Bd.method).1
  have X0 : Stand p l e room_1 s m #[(.int p1)] below meth c s₁ [] 0 0 := Stand.of_body Bd
  have e0 : s₁.heap = h0 := by rw [← hh, Bd.state]; rfl
  have N0 := Fr.nil n0
  have pre0 : ∀ t, Steps p.tables e below (s₁.setTop (mkF m 0 #[.val (.int p1), .unset, .unset] [])) t → Steps p.tables e below (s₁.setTop (entryFrame m #[(.int p1)] maxLocals)) t := fun t k => castTop (own_ef_rm0 m p1) k
  rcases own_sign p1 with hs | hs | hs
  · obtain ⟨_, _, ⟨T1, L1, k1, n1⟩, -, X1, ⟨Lc1, hQ1, l1, y1, z1⟩, st1⟩ := Jvm.LawKit.callS X0 hx (y := (⟨"com/example/datewarden/datewarden/Order", "ofSign", "(I)Lcom/example/datewarden/datewarden/Order;"⟩ : MethodName)) hown (mvT hZ (hw _ (List.mem_of_getElem? (i := 0) rfl))) (mvT hZ (hw _ (List.mem_of_getElem? (i := 1) rfl))) (mvT hZ (hw _ (List.mem_of_getElem? (i := 2) rfl))) (mvT hZ (hw _ (List.mem_of_getElem? (i := 3) rfl))) (by decide) (backOf (W := 0) (rm1n l Z a0 hw [] p1 a_EQUAL a_GREATER a_LESS h0 n0 Z0 hs S_EQUAL E_EQUAL S_GREATER E_GREATER S_LESS E_LESS) hZ (hw _ (List.mem_of_getElem? (i := 3) rfl)) (hw _ (List.mem_of_getElem? (i := 2) rfl)) (by decide) (by decide)) (g := (mkF m 1 #[.val (.int p1), .unset, .unset] [(.int p1)])) rfl (by rw [hml]; rfl) (argsL := [(.int p1)]) (rest := []) (lenOf own_pd0 rfl) rfl (by show 2 * 0 + _ ≤ _; exact Nat.le_of_eq rfl) (hb hby at_1) (fun _ _ => ⟨rfl, e0, (by decide : 0 + 0 ≤ _), (by decide : 0 + 0 ≤ _)⟩)
    dsimp only [Pt.U, Pt.locs, Pt.cells, Pt.slots] at X1 l1 y1 z1 st1 hQ1
    subst l1 y1 z1
    obtain ⟨rfl, N1q, e1⟩ := hQ1
    have N1 := Fr.app N0 N1q
    obtain ⟨T2, X2, e2, st2⟩ := getS2 X1 hx hZ hown (host := "") (Or.inl (hw _ (List.mem_of_getElem? (i := 12) rfl))) Via.refl e1 S_LESS (g := (mkF m 27 #[.val (.int p1), .val (.ref a_LESS), .unset] [])) rfl (hb hby at_27)
    have pre3 : ∀ t, Steps p.tables e below (T2.setTop (mkF m 41 #[.val (.int p1), .val (.ref a_LESS), .val (.ref a_LESS)] [(.int (1 : Int32))])) t → Steps p.tables e below (s₁.setTop (entryFrame m #[(.int p1)] maxLocals)) t := fun t k => pre0 t (by
      show Steps p.tables e below (s₁.setTop (mkF m 0 #[.val (.int p1), .unset, .unset] [])) _
      refine XS.iloadN X0.here hx rfl (hb hby at_0) rfl ?_
      show Steps p.tables e below (s₁.setTop (mkF m 1 #[.val (.int p1), .unset, .unset] [(.int p1)])) _
      refine st1 _ ?_
      show Steps p.tables e below (T1.setTop (mkF m 4 #[.val (.int p1), .unset, .unset] [(.ref a_LESS)])) _
      refine XS.astoreN X1.here hx rfl (hb hby at_4) rfl rfl (l' := #[.val (.int p1), .val (.ref a_LESS), .unset]) rfl ?_
      show Steps p.tables e below (T1.setTop (mkF m 5 #[.val (.int p1), .val (.ref a_LESS), .unset] [])) _
      refine XS.iloadN X1.here hx rfl (hb hby at_5) rfl ?_
      show Steps p.tables e below (T1.setTop (mkF m 6 #[.val (.int p1), .val (.ref a_LESS), .unset] [(.int p1)])) _
      refine XS.ifYes X1.here hx rfl (pc0 := 6) (pc' := 16) rfl (hb hby at_6) rfl ((if0 _ _).trans (flt ((own_np hs) : ¬ ((0 : Int32) < p1))).2.2.2) (by decide) (by decide) ?_
      show Steps p.tables e below (T1.setTop (mkF m 16 #[.val (.int p1), .val (.ref a_LESS), .unset] [])) _
      refine XS.iloadN X1.here hx rfl (hb hby at_16) rfl ?_
      show Steps p.tables e below (T1.setTop (mkF m 17 #[.val (.int p1), .val (.ref a_LESS), .unset] [(.int p1)])) _
      refine XS.ifYes X1.here hx rfl (pc0 := 17) (pc' := 27) rfl (hb hby at_17) rfl ((if0 _ _).trans (feq ((own_nn hs) : ¬ (p1 = (0 : Int32)))).2) (by decide) (by decide) ?_
      show Steps p.tables e below (T1.setTop (mkF m 27 #[.val (.int p1), .val (.ref a_LESS), .unset] [])) _
      refine st2 _ ?_
      show Steps p.tables e below (T2.setTop (mkF m 30 #[.val (.int p1), .val (.ref a_LESS), .unset] [(.ref a_LESS)])) _
      refine XS.astoreN X2.here hx rfl (hb hby at_30) rfl rfl (l' := #[.val (.int p1), .val (.ref a_LESS), .val (.ref a_LESS)]) rfl ?_
      show Steps p.tables e below (T2.setTop (mkF m 31 #[.val (.int p1), .val (.ref a_LESS), .val (.ref a_LESS)] [])) _
      refine XS.aloadN X2.here hx rfl (hb hby at_31) rfl rfl ?_
      show Steps p.tables e below (T2.setTop (mkF m 32 #[.val (.int p1), .val (.ref a_LESS), .val (.ref a_LESS)] [(.ref a_LESS)])) _
      refine XS.aloadN X2.here hx rfl (hb hby at_32) rfl rfl ?_
      show Steps p.tables e below (T2.setTop (mkF m 33 #[.val (.int p1), .val (.ref a_LESS), .val (.ref a_LESS)] [(.ref a_LESS), (.ref a_LESS)])) _
      refine Jvm.RoadKit.acmp (g := (mkF m 33 #[.val (.int p1), .val (.ref a_LESS), .val (.ref a_LESS)] [(.ref a_LESS), (.ref a_LESS)])) X2 hx rfl rfl rfl (pc0 := 33) (pc' := 36) (same := true) rfl (hb hby at_33) rfl (decide_eq_true (rfl)) (by decide) (by decide) ?_
      show Steps p.tables e below (T2.setTop (mkF m 36 #[.val (.int p1), .val (.ref a_LESS), .val (.ref a_LESS)] [])) _
      refine XS.iconst X2.here hx rfl (hb hby at_36) ?_
      show Steps p.tables e below (T2.setTop (mkF m 37 #[.val (.int p1), .val (.ref a_LESS), .val (.ref a_LESS)] [(.int (1 : Int32))])) _
      refine XS.goto X2.here hx rfl (pc0 := 37) (pc' := 41) rfl (hb hby at_37) (by decide) (by decide) ?_
      exact k)
    obtain ⟨fs, hr, hrun, hended, hW, hsame⟩ := X2.leave (v := some (.int (nar .boolean (1 : Int32)))) (fun h => by rw [Bd.returns] at h; cases h)
    refine ⟨_, _, pre3 _ ?_, hrun, hended, _, _, rfl, ?_, ⟨_, rfl⟩, hW, hsame.mono (by decide) (by decide)⟩
    · show Steps p.tables e below (T2.setTop (mkF m 41 #[.val (.int p1), .val (.ref a_LESS), .val (.ref a_LESS)] [(.int (1 : Int32))])) _
      exact retN X2 hx (t := .boolean) Bd.returns (by simp) (hb hby at_41) hr
    · show QL n0 _ T2.heap _
      rw [e2]
      exact ⟨rfl, N1⟩
  · obtain ⟨_, _, ⟨T4, L4, k4, n4⟩, -, X4, ⟨Lc4, hQ4, l4, y4, z4⟩, st4⟩ := Jvm.LawKit.callS X0 hx (y := (⟨"com/example/datewarden/datewarden/Order", "ofSign", "(I)Lcom/example/datewarden/datewarden/Order;"⟩ : MethodName)) hown (mvT hZ (hw _ (List.mem_of_getElem? (i := 0) rfl))) (mvT hZ (hw _ (List.mem_of_getElem? (i := 1) rfl))) (mvT hZ (hw _ (List.mem_of_getElem? (i := 2) rfl))) (mvT hZ (hw _ (List.mem_of_getElem? (i := 3) rfl))) (by decide) (backOf (W := 0) (rm1z l Z a0 hw [] p1 a_EQUAL a_GREATER a_LESS h0 n0 Z0 hs S_EQUAL E_EQUAL S_GREATER E_GREATER S_LESS E_LESS) hZ (hw _ (List.mem_of_getElem? (i := 3) rfl)) (hw _ (List.mem_of_getElem? (i := 2) rfl)) (by decide) (by decide)) (g := (mkF m 1 #[.val (.int p1), .unset, .unset] [(.int p1)])) rfl (by rw [hml]; rfl) (argsL := [(.int p1)]) (rest := []) (lenOf own_pd0 rfl) rfl (by show 2 * 0 + _ ≤ _; exact Nat.le_of_eq rfl) (hb hby at_1) (fun _ _ => ⟨rfl, e0, (by decide : 0 + 0 ≤ _), (by decide : 0 + 0 ≤ _)⟩)
    dsimp only [Pt.U, Pt.locs, Pt.cells, Pt.slots] at X4 l4 y4 z4 st4 hQ4
    subst l4 y4 z4
    obtain ⟨rfl, N4q, e4⟩ := hQ4
    have N4 := Fr.app N0 N4q
    obtain ⟨T5, X5, e5, st5⟩ := getS2 X4 hx hZ hown (host := "") (Or.inl (hw _ (List.mem_of_getElem? (i := 6) rfl))) Via.refl e4 S_EQUAL (g := (mkF m 20 #[.val (.int p1), .val (.ref a_EQUAL), .unset] [])) rfl (hb hby at_20)
    have pre6 : ∀ t, Steps p.tables e below (T5.setTop (mkF m 41 #[.val (.int p1), .val (.ref a_EQUAL), .val (.ref a_EQUAL)] [(.int (1 : Int32))])) t → Steps p.tables e below (s₁.setTop (entryFrame m #[(.int p1)] maxLocals)) t := fun t k => pre0 t (by
      show Steps p.tables e below (s₁.setTop (mkF m 0 #[.val (.int p1), .unset, .unset] [])) _
      refine XS.iloadN X0.here hx rfl (hb hby at_0) rfl ?_
      show Steps p.tables e below (s₁.setTop (mkF m 1 #[.val (.int p1), .unset, .unset] [(.int p1)])) _
      refine st4 _ ?_
      show Steps p.tables e below (T4.setTop (mkF m 4 #[.val (.int p1), .unset, .unset] [(.ref a_EQUAL)])) _
      refine XS.astoreN X4.here hx rfl (hb hby at_4) rfl rfl (l' := #[.val (.int p1), .val (.ref a_EQUAL), .unset]) rfl ?_
      show Steps p.tables e below (T4.setTop (mkF m 5 #[.val (.int p1), .val (.ref a_EQUAL), .unset] [])) _
      refine XS.iloadN X4.here hx rfl (hb hby at_5) rfl ?_
      show Steps p.tables e below (T4.setTop (mkF m 6 #[.val (.int p1), .val (.ref a_EQUAL), .unset] [(.int p1)])) _
      refine XS.ifYes X4.here hx rfl (pc0 := 6) (pc' := 16) rfl (hb hby at_6) rfl ((if0 _ _).trans (flt ((own_zp hs) : ¬ ((0 : Int32) < p1))).2.2.2) (by decide) (by decide) ?_
      show Steps p.tables e below (T4.setTop (mkF m 16 #[.val (.int p1), .val (.ref a_EQUAL), .unset] [])) _
      refine XS.iloadN X4.here hx rfl (hb hby at_16) rfl ?_
      show Steps p.tables e below (T4.setTop (mkF m 17 #[.val (.int p1), .val (.ref a_EQUAL), .unset] [(.int p1)])) _
      refine XS.ifNo X4.here hx rfl (hb hby at_17) rfl ((if0 _ _).trans (teq (hs : p1 = (0 : Int32))).2) ?_
      show Steps p.tables e below (T4.setTop (mkF m 20 #[.val (.int p1), .val (.ref a_EQUAL), .unset] [])) _
      refine st5 _ ?_
      show Steps p.tables e below (T5.setTop (mkF m 23 #[.val (.int p1), .val (.ref a_EQUAL), .unset] [(.ref a_EQUAL)])) _
      refine XS.astoreN X5.here hx rfl (hb hby at_23) rfl rfl (l' := #[.val (.int p1), .val (.ref a_EQUAL), .val (.ref a_EQUAL)]) rfl ?_
      show Steps p.tables e below (T5.setTop (mkF m 24 #[.val (.int p1), .val (.ref a_EQUAL), .val (.ref a_EQUAL)] [])) _
      refine XS.goto X5.here hx rfl (pc0 := 24) (pc' := 31) rfl (hb hby at_24) (by decide) (by decide) ?_
      show Steps p.tables e below (T5.setTop (mkF m 31 #[.val (.int p1), .val (.ref a_EQUAL), .val (.ref a_EQUAL)] [])) _
      refine XS.aloadN X5.here hx rfl (hb hby at_31) rfl rfl ?_
      show Steps p.tables e below (T5.setTop (mkF m 32 #[.val (.int p1), .val (.ref a_EQUAL), .val (.ref a_EQUAL)] [(.ref a_EQUAL)])) _
      refine XS.aloadN X5.here hx rfl (hb hby at_32) rfl rfl ?_
      show Steps p.tables e below (T5.setTop (mkF m 33 #[.val (.int p1), .val (.ref a_EQUAL), .val (.ref a_EQUAL)] [(.ref a_EQUAL), (.ref a_EQUAL)])) _
      refine Jvm.RoadKit.acmp (g := (mkF m 33 #[.val (.int p1), .val (.ref a_EQUAL), .val (.ref a_EQUAL)] [(.ref a_EQUAL), (.ref a_EQUAL)])) X5 hx rfl rfl rfl (pc0 := 33) (pc' := 36) (same := true) rfl (hb hby at_33) rfl (decide_eq_true (rfl)) (by decide) (by decide) ?_
      show Steps p.tables e below (T5.setTop (mkF m 36 #[.val (.int p1), .val (.ref a_EQUAL), .val (.ref a_EQUAL)] [])) _
      refine XS.iconst X5.here hx rfl (hb hby at_36) ?_
      show Steps p.tables e below (T5.setTop (mkF m 37 #[.val (.int p1), .val (.ref a_EQUAL), .val (.ref a_EQUAL)] [(.int (1 : Int32))])) _
      refine XS.goto X5.here hx rfl (pc0 := 37) (pc' := 41) rfl (hb hby at_37) (by decide) (by decide) ?_
      exact k)
    obtain ⟨fs, hr, hrun, hended, hW, hsame⟩ := X5.leave (v := some (.int (nar .boolean (1 : Int32)))) (fun h => by rw [Bd.returns] at h; cases h)
    refine ⟨_, _, pre6 _ ?_, hrun, hended, _, _, rfl, ?_, ⟨_, rfl⟩, hW, hsame.mono (by decide) (by decide)⟩
    · show Steps p.tables e below (T5.setTop (mkF m 41 #[.val (.int p1), .val (.ref a_EQUAL), .val (.ref a_EQUAL)] [(.int (1 : Int32))])) _
      exact retN X5 hx (t := .boolean) Bd.returns (by simp) (hb hby at_41) hr
    · show QL n0 _ T5.heap _
      rw [e5]
      exact ⟨rfl, N4⟩
  · obtain ⟨_, _, ⟨T7, L7, k7, n7⟩, -, X7, ⟨Lc7, hQ7, l7, y7, z7⟩, st7⟩ := Jvm.LawKit.callS X0 hx (y := (⟨"com/example/datewarden/datewarden/Order", "ofSign", "(I)Lcom/example/datewarden/datewarden/Order;"⟩ : MethodName)) hown (mvT hZ (hw _ (List.mem_of_getElem? (i := 0) rfl))) (mvT hZ (hw _ (List.mem_of_getElem? (i := 1) rfl))) (mvT hZ (hw _ (List.mem_of_getElem? (i := 2) rfl))) (mvT hZ (hw _ (List.mem_of_getElem? (i := 3) rfl))) (by decide) (backOf (W := 0) (rm1p l Z a0 hw [] p1 a_EQUAL a_GREATER a_LESS h0 n0 Z0 hs S_EQUAL E_EQUAL S_GREATER E_GREATER S_LESS E_LESS) hZ (hw _ (List.mem_of_getElem? (i := 3) rfl)) (hw _ (List.mem_of_getElem? (i := 2) rfl)) (by decide) (by decide)) (g := (mkF m 1 #[.val (.int p1), .unset, .unset] [(.int p1)])) rfl (by rw [hml]; rfl) (argsL := [(.int p1)]) (rest := []) (lenOf own_pd0 rfl) rfl (by show 2 * 0 + _ ≤ _; exact Nat.le_of_eq rfl) (hb hby at_1) (fun _ _ => ⟨rfl, e0, (by decide : 0 + 0 ≤ _), (by decide : 0 + 0 ≤ _)⟩)
    dsimp only [Pt.U, Pt.locs, Pt.cells, Pt.slots] at X7 l7 y7 z7 st7 hQ7
    subst l7 y7 z7
    obtain ⟨rfl, N7q, e7⟩ := hQ7
    have N7 := Fr.app N0 N7q
    obtain ⟨T8, X8, e8, st8⟩ := getS2 X7 hx hZ hown (host := "") (Or.inl (hw _ (List.mem_of_getElem? (i := 9) rfl))) Via.refl e7 S_GREATER (g := (mkF m 9 #[.val (.int p1), .val (.ref a_GREATER), .unset] [])) rfl (hb hby at_9)
    have pre9 : ∀ t, Steps p.tables e below (T8.setTop (mkF m 41 #[.val (.int p1), .val (.ref a_GREATER), .val (.ref a_GREATER)] [(.int (1 : Int32))])) t → Steps p.tables e below (s₁.setTop (entryFrame m #[(.int p1)] maxLocals)) t := fun t k => pre0 t (by
      show Steps p.tables e below (s₁.setTop (mkF m 0 #[.val (.int p1), .unset, .unset] [])) _
      refine XS.iloadN X0.here hx rfl (hb hby at_0) rfl ?_
      show Steps p.tables e below (s₁.setTop (mkF m 1 #[.val (.int p1), .unset, .unset] [(.int p1)])) _
      refine st7 _ ?_
      show Steps p.tables e below (T7.setTop (mkF m 4 #[.val (.int p1), .unset, .unset] [(.ref a_GREATER)])) _
      refine XS.astoreN X7.here hx rfl (hb hby at_4) rfl rfl (l' := #[.val (.int p1), .val (.ref a_GREATER), .unset]) rfl ?_
      show Steps p.tables e below (T7.setTop (mkF m 5 #[.val (.int p1), .val (.ref a_GREATER), .unset] [])) _
      refine XS.iloadN X7.here hx rfl (hb hby at_5) rfl ?_
      show Steps p.tables e below (T7.setTop (mkF m 6 #[.val (.int p1), .val (.ref a_GREATER), .unset] [(.int p1)])) _
      refine XS.ifNo X7.here hx rfl (hb hby at_6) rfl ((if0 _ _).trans (tlt (hs : (0 : Int32) < p1)).2.2.2) ?_
      show Steps p.tables e below (T7.setTop (mkF m 9 #[.val (.int p1), .val (.ref a_GREATER), .unset] [])) _
      refine st8 _ ?_
      show Steps p.tables e below (T8.setTop (mkF m 12 #[.val (.int p1), .val (.ref a_GREATER), .unset] [(.ref a_GREATER)])) _
      refine XS.astoreN X8.here hx rfl (hb hby at_12) rfl rfl (l' := #[.val (.int p1), .val (.ref a_GREATER), .val (.ref a_GREATER)]) rfl ?_
      show Steps p.tables e below (T8.setTop (mkF m 13 #[.val (.int p1), .val (.ref a_GREATER), .val (.ref a_GREATER)] [])) _
      refine XS.goto X8.here hx rfl (pc0 := 13) (pc' := 31) rfl (hb hby at_13) (by decide) (by decide) ?_
      show Steps p.tables e below (T8.setTop (mkF m 31 #[.val (.int p1), .val (.ref a_GREATER), .val (.ref a_GREATER)] [])) _
      refine XS.aloadN X8.here hx rfl (hb hby at_31) rfl rfl ?_
      show Steps p.tables e below (T8.setTop (mkF m 32 #[.val (.int p1), .val (.ref a_GREATER), .val (.ref a_GREATER)] [(.ref a_GREATER)])) _
      refine XS.aloadN X8.here hx rfl (hb hby at_32) rfl rfl ?_
      show Steps p.tables e below (T8.setTop (mkF m 33 #[.val (.int p1), .val (.ref a_GREATER), .val (.ref a_GREATER)] [(.ref a_GREATER), (.ref a_GREATER)])) _
      refine Jvm.RoadKit.acmp (g := (mkF m 33 #[.val (.int p1), .val (.ref a_GREATER), .val (.ref a_GREATER)] [(.ref a_GREATER), (.ref a_GREATER)])) X8 hx rfl rfl rfl (pc0 := 33) (pc' := 36) (same := true) rfl (hb hby at_33) rfl (decide_eq_true (rfl)) (by decide) (by decide) ?_
      show Steps p.tables e below (T8.setTop (mkF m 36 #[.val (.int p1), .val (.ref a_GREATER), .val (.ref a_GREATER)] [])) _
      refine XS.iconst X8.here hx rfl (hb hby at_36) ?_
      show Steps p.tables e below (T8.setTop (mkF m 37 #[.val (.int p1), .val (.ref a_GREATER), .val (.ref a_GREATER)] [(.int (1 : Int32))])) _
      refine XS.goto X8.here hx rfl (pc0 := 37) (pc' := 41) rfl (hb hby at_37) (by decide) (by decide) ?_
      exact k)
    obtain ⟨fs, hr, hrun, hended, hW, hsame⟩ := X8.leave (v := some (.int (nar .boolean (1 : Int32)))) (fun h => by rw [Bd.returns] at h; cases h)
    refine ⟨_, _, pre9 _ ?_, hrun, hended, _, _, rfl, ?_, ⟨_, rfl⟩, hW, hsame.mono (by decide) (by decide)⟩
    · show Steps p.tables e below (T8.setTop (mkF m 41 #[.val (.int p1), .val (.ref a_GREATER), .val (.ref a_GREATER)] [(.int (1 : Int32))])) _
      exact retN X8 hx (t := .boolean) Bd.returns (by simp) (hb hby at_41) hr
    · show QL n0 _ T8.heap _
      rw [e8]
      exact ⟨rfl, N7⟩
set_option maxRecDepth 65536 in
set_option maxHeartbeats 40000000 in
theorem comes_1 {Post : Tables → Env → Array Value → State → Outcome → State → Prop} (hpost : ∀ tb e args s v u, (limb_1_1.after args s (.returned v) u = true ∧ limb_1_2.after args s (.returned v) u = true ∧ True) → FrameEnd s (.returned v) u (Jvm.fieldLocs frame_1_writes args s ++ Jvm.arrayLocs frame_1_arrays args s ++ Jvm.staticLocs frame_1_statics s) 0 0 → Post tb e args s (.returned v) u) :
    ArmFor flags0 classFile x code maxLocals ret World_1 tables_1 room_1 Calls_1 rest_1 Pre_1 Post := by
  intro l hfl _ _ p e ha hc hk s m args below hf hA hF happ hP
  obtain ⟨hcalls, hrest, hpre⟩ := hP
  obtain ⟨-, -, -, hnamed, -, -, -, hat⟩ := (Spec.applies_iff hf).mp happ
  obtain ⟨hg, hn⟩ := and_e (Cond.before_iff.mp (show (Jvm.Cond.and given_1 narrow_1).before args s = true from hpre))
  obtain ⟨gc, gr0⟩ := and_e hg
  have ga0 := gr0
  obtain ⟨w0, rfl⟩ : ∃ w0 : Value, args = #[w0] := by
    have hs : args.size = 1 := by simpa [Cond.value, given_1] using gc
    obtain ⟨L⟩ := args
    match L, hs with
    | [w0], _ => exact ⟨w0, rfl⟩
  have hw := fun d (hd : d ∈ tables_1) => atoms_spec (ws := Jvm.Cond.code x code maxLocals ret :: tables_1) hat d (List.mem_cons_of_mem _ hd)
  have hfit : Fit s := fun {y c} hc i hi => by
    obtain ⟨ha, rfl⟩ := Array.getElem?_eq_some_iff.mp hc
    have q := List.all_eq_true.mp ((Array.all_eq_true_iff_forall_mem.mp hF) _ (Array.getElem_mem ha)) i (List.mem_range.mpr hi)
    simpa [Array.getElem?_eq_getElem hi] using q
  obtain ⟨i0, ei0⟩ := is_v ga0
  obtain rfl : w0 = (.int i0) := Option.some.inj ei0
  obtain ⟨c0, r0⟩ := and_e hn
  obtain ⟨c1, r1⟩ := and_e r0
  have c2 := r1
  obtain ⟨a_EQUAL, ea_EQUAL⟩ := exa_v c0
  have S_EQUAL := Sta.start ea_EQUAL (Or.inr ⟨(hw _ (List.mem_of_getElem? (i := 2) rfl)), (hw _ (List.mem_of_getElem? (i := 5) rfl))⟩)
  have E_EQUAL := Exa.start ea_EQUAL c0
  obtain ⟨a_GREATER, ea_GREATER⟩ := exa_v c1
  have S_GREATER := Sta.start ea_GREATER (Or.inr ⟨(hw _ (List.mem_of_getElem? (i := 2) rfl)), (hw _ (List.mem_of_getElem? (i := 8) rfl))⟩)
  have E_GREATER := Exa.start ea_GREATER c1
  obtain ⟨a_LESS, ea_LESS⟩ := exa_v c2
  have S_LESS := Sta.start ea_LESS (Or.inr ⟨(hw _ (List.mem_of_getElem? (i := 2) rfl)), (hw _ (List.mem_of_getElem? (i := 11) rfl))⟩)
  have E_LESS := Exa.start ea_LESS c2
  obtain ⟨n, o, h1, h2, h3, _, L, rfl, ⟨rfl, N⟩, hq⟩ := rm0 l s _ hw tables_1 i0 a_EQUAL a_GREATER a_LESS s.heap s.heap.size (Nat.le_refl _) S_EQUAL E_EQUAL S_GREATER E_GREATER S_LESS E_LESS p e ha hc hk s m _ below hf ((Spec.applies_iff_loose hf).mp happ).1 ⟨rfl, State.Warmed39.refl s, rfl⟩ trivial
  refine ⟨n, _, h1, h2, h3, hpost _ _ _ _ _ _ ⟨Cond.after_iff.mpr rfl, Cond.after_iff.mpr (eq_i res_at (Term.int_eval (1)) rfl), trivial⟩ ⟨hq.1, hq.2.1, (hq.2.2.sift fun y hy => Or.inr (N y hy)).mono (by decide) (by decide)⟩⟩
theorem main_1_1 : Claimed_1_1 := comes_1 fun _ _ _ _ _ _ h hF => ⟨h.1, hF⟩
theorem main_1_2 : Claimed_1_2 := comes_1 fun _ _ _ _ _ _ h hF => ⟨h.2.1, hF⟩
end Jvm.Pilot.@@N@@
namespace Jvm.Pilot.@@N@@
open Jvm Jvm.ClassFile Sem Op Lib Jvm.Free Jvm.Stand Jvm.Pilot.@@N@@.Jvm.D
/-! MADE BY PROGRAM (witnessworld.py) out of the Statement's table words and the real class files: 12 classes; the members and pool entries that the words name. The judged class is class 1, her method 1. -/
namespace start1
open Jvm.ClassFile
def u (s : String) : CpInfo := .utf8 (stringToUtf16 s)
/-- a pool by its gaps: so many unusable entries, then the entry; so many at the end -/
def gap : Nat → List CpInfo → List CpInfo
  | 0, r => r
  | n + 1, r => .unusable :: gap n r
def poolList (es : List (Nat × CpInfo)) (last : Nat) : List CpInfo := es.foldr (fun e r => gap e.1 (e.2 :: r)) (gap last [])
def pool (es : List (Nat × CpInfo)) (last : Nat) : Array CpInfo := ⟨poolList es last⟩
def fileOf (pool : Array CpInfo) (this : Nat) (attrs : Array Attribute := #[]) (ms : Array MethodInfo := #[]) (fl : Nat := 33) (sup : Nat := 0) (ifs : Array Nat := #[]) (fds : Array FieldInfo := #[]) : ClassFile where
  minorVersion := 0
  majorVersion := 65
  constantPool := pool
  accessFlags := fl
  thisClass := this
  superClass := sup
  interfaces := ifs
  fields := fds
  methods := ms
  attributes := attrs
def plain (name : String) (sup : Option ClassId) : Class where
  name := name
  kind := .ordinary
  loader := none
  accessFlags := 33
  super := sup
  interfaces := #[]
  cf := none
  fields := #[]
  methods := #[]
  instanceTypes := #[]
  staticTypes := #[]
  resolved := #[]
  callSites := []
  init := .initialized
  statics := none
  mirror := none

def pool0 : Array CpInfo := pool [(5, u "<init>"), (0, u "()V"), (1, .class_ 10), (1, u "java/lang/Object")] 113

def k0m0 : Method := { name := "<init>", desc := "()V", sig := { parameters := [], returnType := none }, accessFlags := 1, code := none }
/-- java/lang/Object -/
def k0 : Class := { plain "java/lang/Object" none with
  accessFlags := 33
  interfaces := #[]
  cf := some (fileOf pool0 8 #[] #[{ accessFlags := 1, nameIndex := 5, descriptorIndex := 6, attributes := #[] }] 33 0 #[] #[])
  fields := #[]
  methods := #[k0m0]
  instanceTypes := #[]
  staticTypes := #[]
  resolved := Array.replicate 124 none
  statics := none }

def pool1 : Array CpInfo := pool [(2, .class_ 4), (1, u "java/lang/Object"), (0, u "<init>"), (0, u "()V"), (0, .methodref 8 9), (0, .class_ 10), (0, .nameAndType 11 12), (0, u "com/example/datewarden/datewarden/Order"), (0, u "ofSign"), (0, u "(I)Lcom/example/datewarden/datewarden/Order;"), (0, .fieldref 8 14), (0, .nameAndType 15 16), (0, u "GREATER"), (0, u "Lcom/example/datewarden/datewarden/Order;"), (0, .fieldref 8 18), (0, .nameAndType 19 16), (0, u "EQUAL"), (0, .fieldref 8 21), (0, .nameAndType 22 16), (0, u "LESS"), (0, .class_ 24), (0, u "com/example/datewarden/datewarden/OrderOfSignPinLaw"), (2, u "law"), (0, u "(I)Z")] 3

def k1m0 : Method := { name := "<init>", desc := "()V", sig := { parameters := [], returnType := none }, accessFlags := 1, code := none }
def k1c1 : Code := { maxStack := 2, maxLocals := 3, code := code, exceptionTable := #[], attributes := #[] }
def k1m1 : Method := { name := "law", desc := "(I)Z", sig := { parameters := [.int], returnType := some .boolean }, accessFlags := 9, code := some k1c1 }
/-- com/example/datewarden/datewarden/OrderOfSignPinLaw -/
def k1 : Class := { plain "com/example/datewarden/datewarden/OrderOfSignPinLaw" (some 0) with
  accessFlags := 49
  interfaces := #[]
  cf := some (fileOf pool1 23 #[] #[{ accessFlags := 1, nameIndex := 5, descriptorIndex := 6, attributes := #[] }, { accessFlags := 9, nameIndex := 27, descriptorIndex := 28, attributes := #[] }] 49 2 #[] #[])
  fields := #[]
  methods := #[k1m0, k1m1]
  instanceTypes := #[]
  staticTypes := #[]
  resolved := Array.replicate 32 none
  statics := none }

def pool2 : Array CpInfo := pool [(1, .class_ 2), (0, u "java/lang/constant/Constable"), (0, .class_ 4), (0, u "java/lang/Object")] 6

/-- java/lang/constant/Constable -/
def k2 : Class := { plain "java/lang/constant/Constable" (some 0) with
  accessFlags := 1537
  interfaces := #[]
  cf := some (fileOf pool2 1 #[] #[] 1537 3 #[] #[])
  fields := #[]
  methods := #[]
  instanceTypes := #[]
  staticTypes := #[]
  resolved := Array.replicate 11 none
  statics := none }

def pool3 : Array CpInfo := pool [(1, .class_ 2), (0, u "java/lang/Comparable"), (0, .class_ 4), (0, u "java/lang/Object")] 7

/-- java/lang/Comparable -/
def k3 : Class := { plain "java/lang/Comparable" (some 0) with
  accessFlags := 1537
  interfaces := #[]
  cf := some (fileOf pool3 1 #[] #[] 1537 3 #[] #[])
  fields := #[]
  methods := #[]
  instanceTypes := #[]
  staticTypes := #[]
  resolved := Array.replicate 12 none
  statics := none }

def pool4 : Array CpInfo := pool [(1, .class_ 2), (0, u "java/io/Serializable"), (0, .class_ 4), (0, u "java/lang/Object")] 2

/-- java/io/Serializable -/
def k4 : Class := { plain "java/io/Serializable" (some 0) with
  accessFlags := 1537
  interfaces := #[]
  cf := some (fileOf pool4 1 #[] #[] 1537 3 #[] #[])
  fields := #[]
  methods := #[]
  instanceTypes := #[]
  staticTypes := #[]
  resolved := Array.replicate 7 none
  statics := none }

def pool5 : Array CpInfo := pool [(2, .class_ 4), (1, u "java/lang/Enum"), (0, u "name"), (0, u "Ljava/lang/String;"), (2, u "ordinal"), (0, u "I"), (1, .class_ 14), (1, u "java/lang/Object"), (4, u "hash"), (86, .class_ 108), (1, u "java/lang/Enum$EnumDesc"), (2, .class_ 112), (0, u "java/lang/constant/Constable"), (0, .class_ 114), (0, u "java/lang/Comparable"), (0, .class_ 116), (0, u "java/io/Serializable")] 87

/-- java/lang/Enum -/
def k5 : Class := { plain "java/lang/Enum" (some 0) with
  accessFlags := 1057
  interfaces := #[2, 3, 4]
  cf := some (fileOf pool5 2 #[.nestMembers #[106]] #[] 1057 12 #[111, 113, 115] #[{ accessFlags := 18, nameIndex := 5, descriptorIndex := 6, attributes := #[] }, { accessFlags := 18, nameIndex := 9, descriptorIndex := 10, attributes := #[] }, { accessFlags := 2, nameIndex := 19, descriptorIndex := 10, attributes := #[] }])
  fields := #[{ name := "name", type := (.object "java/lang/String"), accessFlags := 18, slot := 0, constantValue := 0 }, { name := "ordinal", type := .int, accessFlags := 18, slot := 1, constantValue := 0 }, { name := "hash", type := .int, accessFlags := 2, slot := 2, constantValue := 0 }]
  methods := #[]
  instanceTypes := #[(.object "java/lang/String"), .int, .int]
  staticTypes := #[]
  resolved := Array.replicate 204 none
  statics := none }

def pool6 : Array CpInfo := pool [(1, .class_ 2), (0, u "com/example/datewarden/datewarden/Order"), (0, .fieldref 1 4), (0, .nameAndType 5 6), (0, u "LESS"), (0, u "Lcom/example/datewarden/datewarden/Order;"), (0, .fieldref 1 8), (0, .nameAndType 9 6), (0, u "EQUAL"), (0, .fieldref 1 11), (0, .nameAndType 12 6), (0, u "GREATER"), (2, u "INDETERMINATE"), (2, u "$VALUES"), (0, u "[Lcom/example/datewarden/datewarden/Order;"), (6, .class_ 28), (1, u "java/lang/Enum"), (22, u "ofSign"), (0, u "(I)Lcom/example/datewarden/datewarden/Order;")] 5

def k6c0 : Code := { maxStack := 1, maxLocals := 1, code := prog_25_method_4_code, exceptionTable := #[], attributes := #[] }
def k6m0 : Method := { name := "ofSign", desc := "(I)Lcom/example/datewarden/datewarden/Order;", sig := { parameters := [.int], returnType := some (.object "com/example/datewarden/datewarden/Order") }, accessFlags := 8, code := some k6c0 }
/-- com/example/datewarden/datewarden/Order -/
def k6 : Class := { plain "com/example/datewarden/datewarden/Order" (some 5) with
  accessFlags := 16433
  interfaces := #[]
  cf := some (fileOf pool6 1 #[] #[{ accessFlags := 8, nameIndex := 51, descriptorIndex := 52, attributes := #[] }] 16433 26 #[] #[{ accessFlags := 16409, nameIndex := 5, descriptorIndex := 6, attributes := #[] }, { accessFlags := 16409, nameIndex := 9, descriptorIndex := 6, attributes := #[] }, { accessFlags := 16409, nameIndex := 12, descriptorIndex := 6, attributes := #[] }, { accessFlags := 16409, nameIndex := 15, descriptorIndex := 6, attributes := #[] }, { accessFlags := 4122, nameIndex := 18, descriptorIndex := 19, attributes := #[] }])
  fields := #[{ name := "LESS", type := (.object "com/example/datewarden/datewarden/Order"), accessFlags := 16409, slot := 0, constantValue := 0 }, { name := "EQUAL", type := (.object "com/example/datewarden/datewarden/Order"), accessFlags := 16409, slot := 1, constantValue := 0 }, { name := "GREATER", type := (.object "com/example/datewarden/datewarden/Order"), accessFlags := 16409, slot := 2, constantValue := 0 }, { name := "INDETERMINATE", type := (.object "com/example/datewarden/datewarden/Order"), accessFlags := 16409, slot := 3, constantValue := 0 }, { name := "$VALUES", type := (.array (.object "com/example/datewarden/datewarden/Order")), accessFlags := 4122, slot := 4, constantValue := 0 }]
  methods := #[k6m0]
  instanceTypes := #[(.object "java/lang/String"), .int, .int]
  staticTypes := #[(.object "com/example/datewarden/datewarden/Order"), (.object "com/example/datewarden/datewarden/Order"), (.object "com/example/datewarden/datewarden/Order"), (.object "com/example/datewarden/datewarden/Order"), (.array (.object "com/example/datewarden/datewarden/Order"))]
  resolved := Array.replicate 58 none
  statics := some 0 }

def pool7 : Array CpInfo := pool [(1, u "java/lang/Cloneable"), (0, .class_ 1), (0, u "java/lang/Object"), (0, .class_ 3)] 3

/-- java/lang/Cloneable -/
def k7 : Class := { plain "java/lang/Cloneable" (some 0) with
  accessFlags := 1537
  interfaces := #[]
  cf := some (fileOf pool7 2 #[] #[] 1537 4 #[] #[])
  fields := #[]
  methods := #[]
  instanceTypes := #[]
  staticTypes := #[]
  resolved := Array.replicate 8 none
  statics := none }

/-- the primitive byte -/
def k8 : Class := { plain "byte" none with kind := .primitive 'B', accessFlags := 0x411 }
/-- [B -/
def k9 : Class := { plain "[B" (some 0) with kind := .array 8 .byte, interfaces := #[7, 4], accessFlags := 1041 }

/-- the primitive int -/
def k10 : Class := { plain "int" none with kind := .primitive 'I', accessFlags := 0x411 }
/-- [I -/
def k11 : Class := { plain "[I" (some 0) with kind := .array 10 .int, interfaces := #[7, 4], accessFlags := 1041 }

def heap : Heap := #[{ cls := 6, slots := #[.ref 3, .ref 1, .ref 2, .null, .null], vm := .statics 6 },
  { cls := 6, slots := #[.null, .int 0, .int 0], vm := .none },
  { cls := 6, slots := #[.null, .int 0, .int 0], vm := .none },
  { cls := 6, slots := #[.null, .int 0, .int 0], vm := .none }]
def classes : Array Class := #[k0, k1, k2, k3, k4, k5, k6, k7, k8, k9, k10, k11]
def interned : List (Array UInt16 × Addr) := []
def slotsUsed : Nat := 14
def theMethod : MethodId := ⟨1, 1⟩
def args0 : Array Value := #[.int 5]
def aboutOver (below : List Frame) : State where
  vm := { classes := classes, interned := interned.toArray }
  heap := heap
  slotsUsed := slotsUsed
  threads := #[{ frames := .invoking theMethod args0 :: below }]
def below0 : List Frame := [.native { method := ⟨0, 0⟩, args := #[] }]
def about1 : State := aboutOver below0
def p0 : Program := .bare "" "" ""
def e0 : Env := launch0.env 0 0 0
theorem w_frames : about1.frames = Frame.invoking theMethod args0 :: below0 := rfl
set_option maxRecDepth 65536 in
theorem w_args : argsFit about1.vm theMethod args0 = true := by decide +kernel
set_option maxRecDepth 65536 in
theorem w_heap : heapFits about1 = true := by decide +kernel
set_option maxRecDepth 65536 in
theorem w_runnable : about1.curStatus? = some .runnable := by decide +kernel
set_option maxRecDepth 65536 in
theorem w_alone : about1.alone = true := by decide +kernel
set_option maxRecDepth 65536 in
theorem w_named : about1.methodNamed? x = some theMethod := by decide +kernel
set_option maxRecDepth 65536 in
theorem w_hears : about1.hears theMethod below0 = true := by decide +kernel
set_option maxRecDepth 65536 in
theorem w_ripe : about1.ripe theMethod args0 below0 = true := by decide +kernel
theorem w_running : about1.status = .running := rfl
set_option maxRecDepth 65536 in
theorem w_room : about1.hasRoom e0.platform room_1 = true :=
  launch0.hasRoom_least _ room_1 (by decide +kernel) (by decide +kernel) (by decide +kernel) (by decide +kernel) (by decide +kernel) (by decide +kernel)
theorem allAtoms_all (ts : List Jvm.Cond) (a : Array Jvm.Value) (st : Jvm.State) : (allAtoms ts).before a st = ts.all (fun c => c.before a st) := by
  induction ts with
  | nil => rfl
  | cons c t ih =>
    show (Jvm.Cond.and c (allAtoms t)).before a st = _
    rw [Jvm.Cond.before_and, ih, List.all_cons]
def words1 : List Jvm.Cond := Jvm.Cond.code x code maxLocals ret :: tables_1
/-- a 'code' word, met by the world's own term for the bytes: nothing is compared byte by byte -/
theorem code_word {y : MethodName} {bytes : ByteArray} {mx : Nat} {rt : Option FieldType} {a : Array Value} {s : State} {m : MethodId} {meth : Method} {c : Code} (h1 : s.methodNamed? y = some m) (h2 : s.vm.method? m = some meth) (h3 : meth.code = some c) (h4 : c.code = bytes)
    (h5 : (c.maxLocals == mx && c.exceptionTable.isEmpty && decide (c.maxStack ≤ mostOperands) && decide (meth.sig.returnType = rt) && !meth.locks && decide (parseMethodDescriptor y.desc = some meth.sig)) = true) : (Jvm.Cond.code y bytes mx rt).before a s = true := by
  simp only [Bool.and_eq_true, beq_iff_eq, Bool.not_eq_true', decide_eq_true_eq] at h5
  obtain ⟨⟨⟨⟨⟨g1, g2⟩, g3⟩, g4⟩, g5⟩, g6⟩ := h5
  simp [Cond.before, Cond.holds, Cond.value, h1, h2, h3, h4, g1, g2, g3, g4, g5, g6]
def isCode : Jvm.Cond → Bool
  | .code _ _ _ _ => true
  | _ => false
theorem all_split {L : List Jvm.Cond} {P : Jvm.Cond → Bool} (h1 : L.all (fun c => isCode c || P c) = true) (h2 : ∀ c ∈ L.filter isCode, P c = true) : L.all P = true := by
  refine List.all_eq_true.mpr fun c hc => ?_
  have h := List.all_eq_true.mp h1 c hc
  rcases Bool.eq_false_or_eq_true (isCode c) with hi | hi
  · exact h2 c (List.mem_filter.mpr ⟨hc, hi⟩)
  · simpa [hi] using h
set_option maxRecDepth 65536 in
theorem w_c0 : (Jvm.Cond.code x code maxLocals ret).before args0 about1 = true := code_word (m := ⟨1, 1⟩) (meth := k1m1) (c := k1c1) (by decide +kernel) rfl rfl rfl (by decide +kernel)
set_option maxRecDepth 65536 in
theorem w_c1 : (Jvm.Cond.code ({ cls := "com/example/datewarden/datewarden/Order", name := "ofSign", desc := "(I)Lcom/example/datewarden/datewarden/Order;" } : Jvm.MethodName) prog_25_method_4_code (1 : Nat) (Option.some (Jvm.ClassFile.FieldType.object "com/example/datewarden/datewarden/Order"))).before args0 about1 = true := code_word (m := ⟨6, 0⟩) (meth := k6m0) (c := k6c0) (by decide +kernel) rfl rfl rfl (by decide +kernel)
def codes1 : List Jvm.Cond := [Jvm.Cond.code x code maxLocals ret, Jvm.Cond.code ({ cls := "com/example/datewarden/datewarden/Order", name := "ofSign", desc := "(I)Lcom/example/datewarden/datewarden/Order;" } : Jvm.MethodName) prog_25_method_4_code (1 : Nat) (Option.some (Jvm.ClassFile.FieldType.object "com/example/datewarden/datewarden/Order"))]
set_option maxRecDepth 65536 in
theorem codes_eq : words1.filter isCode = codes1 := rfl
theorem w_codes : ∀ c ∈ words1.filter isCode, c.before args0 about1 = true := by
  rw [codes_eq]
  intro c hc
  simp only [codes1, List.mem_cons, List.not_mem_nil, or_false] at hc
  rcases hc with rfl | rfl
  · exact w_c0
  · exact w_c1
set_option maxRecDepth 65536 in
theorem w_t1 : words1.all (fun c => isCode c || c.before args0 about1) = true := by decide +kernel
theorem w_tables : (allAtoms (Jvm.Cond.code x code maxLocals ret :: tables_1)).before args0 about1 = true := by
  rw [allAtoms_all]
  show words1.all (fun c => c.before args0 about1) = true
  refine all_split ?_ w_codes
  rw [w_t1]
set_option maxRecDepth 65536 in
theorem w_case : (Jvm.Cond.and given_1 narrow_1).before args0 about1 = true := by decide +kernel
theorem w_applies : (headSpec (Jvm.Cond.code x code maxLocals ret :: tables_1) room_1).applies x e0.platform about1 = true :=
  (Spec.applies_iff w_frames).mpr ⟨w_running, w_runnable, w_alone, w_named, w_hears, w_ripe, w_room, w_tables⟩
theorem atStart : AtStart classFile x code maxLocals ret World_1 tables_1 room_1 Calls_1 rest_1 Pre_1 launch0 p0 e0 about1 theMethod args0 below0 :=
  ⟨lists_1, trivial, launch0.admits_env _ _ _, launch0.least_env, fairChoices_fair.cas, fairChoices_fair.clock, w_frames, w_args, w_heap, w_applies, trivial, trivial, w_case⟩
end start1
theorem witness_1 : WitnessClaimed_1 := ⟨start1.p0, start1.e0, start1.about1, start1.theMethod, start1.args0, start1.below0, start1.atStart⟩
end Jvm.Pilot.@@N@@
