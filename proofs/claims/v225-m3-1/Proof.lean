import JvmDerived
import JvmDerived.Pilot.@@N@@Statement
import JvmDerived.Pilot.@@N@@Code
set_option linter.unusedVariables false
set_option linter.unusedSimpArgs false
@@BLOCK:NumsL.lean.txt@@
namespace Jvm.RoadKit
open Sem ClassFile Op Lib Jvm.Stand Jvm.Free Jvm.LawKit
section New
variable {p : Program} {l : Launch} {e : Env} {R : Room} {s : State} {m : MethodId} {args : Array Value} {below : List Frame} {meth : Method} {c : Code} {T : State} {locs : List Loc} {cells slots : Nat}
theorem retI (X : Stand p l e R s m args below meth c T locs cells slots) (hx : p.tables.exec = Jvm.exec) {pc : Nat} {Ls : Array Slot} {z : Int32} {rest : List Value} (hret : meth.sig.returnType = some .int) (hd : decode c.code pc = .ok (.ireturn, 1)) {fs : List Frame}
    (hl : ∀ (f : JFrame) (acts : List Action), f.method = m → f.locked = none → f.entered = [] → (doReturn e (T.setTop f) acts (some (.int z))).1 = T.setFrames fs) : Steps p.tables e below (T.setTop (mkF m pc Ls (.int z :: rest))) (T.setFrames fs) := by
  have hm' : T.vm.method? m = some meth := X.method'
  have hn : narrow .int (.int z) = .int z := rfl
  show Steps p.tables e below (T.setTop { method := m, pc := pc, locals := Ls, stack := _ :: rest, locked := none }) _
  jvm_step X.here [X.here.top, hx, hd, hm', hret, hn]
  first | (intro acts; rw [hl _ acts rfl rfl rfl]) | rw [hl _ _ rfl rfl rfl]
  exact Steps.refl _
end New
end Jvm.RoadKit
namespace Jvm.Pilot.@@N@@
open Jvm Jvm.ClassFile Sem Op Lib Jvm.Free Jvm.Stand Jvm.LawKit Jvm.RoadKit Bundle Jvm.Pilot.@@N@@.Jvm.D
/-- a body that returns r, makes and writes nothing -/
def QP (r : Value) (h0 : Heap) (n0 : Nat) (v : Option Value) (h : Heap) (L : List Loc) : Prop := v = some r ∧ Fr n0 L ∧ h = h0
theorem own_d_prog_25_method_1_code_0 : decode prog_25_method_1_code 0 = .ok (.aload_n 0, 1) := by decide +kernel
theorem own_d_prog_25_method_1_code_1 : decode prog_25_method_1_code 1 = .ok (.invokespecial 3, 3) := by decide +kernel
theorem own_d_prog_25_method_1_code_4 : decode prog_25_method_1_code 4 = .ok (.aload_n 0, 1) := by decide +kernel
theorem own_d_prog_25_method_1_code_5 : decode prog_25_method_1_code 5 = .ok (.iconst 1, 1) := by decide +kernel
theorem own_d_prog_25_method_1_code_6 : decode prog_25_method_1_code 6 = .ok (.anewarray 9, 3) := by decide +kernel
theorem own_d_prog_25_method_1_code_9 : decode prog_25_method_1_code 9 = .ok (.putfield 11, 3) := by decide +kernel
theorem own_d_prog_25_method_1_code_12 : decode prog_25_method_1_code 12 = .ok (.return_, 1) := by decide +kernel
theorem own_d_prog_25_method_2_code_0 : decode prog_25_method_2_code 0 = .ok (.aload_n 0, 1) := by decide +kernel
theorem own_d_prog_25_method_2_code_1 : decode prog_25_method_2_code 1 = .ok (.getfield 15, 3) := by decide +kernel
theorem own_d_prog_25_method_2_code_4 : decode prog_25_method_2_code 4 = .ok (.ldc 21, 2) := by decide +kernel
theorem own_d_prog_25_method_2_code_6 : decode prog_25_method_2_code 6 = .ok (.if_icmp .ne 13, 3) := by decide +kernel
theorem own_d_prog_25_method_2_code_19 : decode prog_25_method_2_code 19 = .ok (.aload_n 0, 1) := by decide +kernel
theorem own_d_prog_25_method_2_code_20 : decode prog_25_method_2_code 20 = .ok (.getfield 15, 3) := by decide +kernel
theorem own_d_prog_25_method_2_code_23 : decode prog_25_method_2_code 23 = .ok (.bipush 13, 2) := by decide +kernel
theorem own_d_prog_25_method_2_code_25 : decode prog_25_method_2_code 25 = .ok (.iushr, 1) := by decide +kernel
theorem own_d_prog_25_method_2_code_26 : decode prog_25_method_2_code 26 = .ok (.istore_n 3, 1) := by decide +kernel
theorem own_d_prog_25_method_2_code_27 : decode prog_25_method_2_code 27 = .ok (.aload_n 0, 1) := by decide +kernel
theorem own_d_prog_25_method_2_code_28 : decode prog_25_method_2_code 28 = .ok (.getfield 15, 3) := by decide +kernel
theorem own_d_prog_25_method_2_code_31 : decode prog_25_method_2_code 31 = .ok (.sipush 8191, 3) := by decide +kernel
theorem own_d_prog_25_method_2_code_34 : decode prog_25_method_2_code 34 = .ok (.iand, 1) := by decide +kernel
theorem own_d_prog_25_method_2_code_35 : decode prog_25_method_2_code 35 = .ok (.istore 4, 2) := by decide +kernel
theorem own_d_prog_25_method_2_code_37 : decode prog_25_method_2_code 37 = .ok (.iload_n 3, 1) := by decide +kernel
theorem own_d_prog_25_method_2_code_38 : decode prog_25_method_2_code 38 = .ok (.aload_n 0, 1) := by decide +kernel
theorem own_d_prog_25_method_2_code_39 : decode prog_25_method_2_code 39 = .ok (.getfield 11, 3) := by decide +kernel
theorem own_d_prog_25_method_2_code_42 : decode prog_25_method_2_code 42 = .ok (.arraylength, 1) := by decide +kernel
theorem own_d_prog_25_method_2_code_43 : decode prog_25_method_2_code 43 = .ok (.if_icmp .ne 24, 3) := by decide +kernel
theorem own_d_prog_25_method_2_code_67 : decode prog_25_method_2_code 67 = .ok (.aload_n 0, 1) := by decide +kernel
theorem own_d_prog_25_method_2_code_68 : decode prog_25_method_2_code 68 = .ok (.getfield 11, 3) := by decide +kernel
theorem own_d_prog_25_method_2_code_71 : decode prog_25_method_2_code 71 = .ok (.iload_n 3, 1) := by decide +kernel
theorem own_d_prog_25_method_2_code_72 : decode prog_25_method_2_code 72 = .ok (.aaload, 1) := by decide +kernel
theorem own_d_prog_25_method_2_code_73 : decode prog_25_method_2_code 73 = .ok (.ifnonnull 27, 3) := by decide +kernel
theorem own_d_prog_25_method_2_code_76 : decode prog_25_method_2_code 76 = .ok (.aload_n 0, 1) := by decide +kernel
theorem own_d_prog_25_method_2_code_77 : decode prog_25_method_2_code 77 = .ok (.getfield 11, 3) := by decide +kernel
theorem own_d_prog_25_method_2_code_80 : decode prog_25_method_2_code 80 = .ok (.iload_n 3, 1) := by decide +kernel
theorem own_d_prog_25_method_2_code_81 : decode prog_25_method_2_code 81 = .ok (.iload_n 3, 1) := by decide +kernel
theorem own_d_prog_25_method_2_code_82 : decode prog_25_method_2_code 82 = .ok (.ifCond .ne 9, 3) := by decide +kernel
theorem own_d_prog_25_method_2_code_85 : decode prog_25_method_2_code 85 = .ok (.sipush 128, 3) := by decide +kernel
theorem own_d_prog_25_method_2_code_88 : decode prog_25_method_2_code 88 = .ok (.goto 6, 3) := by decide +kernel
theorem own_d_prog_25_method_2_code_94 : decode prog_25_method_2_code 94 = .ok (.newarray .long, 2) := by decide +kernel
theorem own_d_prog_25_method_2_code_96 : decode prog_25_method_2_code 96 = .ok (.aastore, 1) := by decide +kernel
theorem own_d_prog_25_method_2_code_97 : decode prog_25_method_2_code 97 = .ok (.goto 34, 3) := by decide +kernel
theorem own_d_prog_25_method_2_code_131 : decode prog_25_method_2_code 131 = .ok (.aload_n 0, 1) := by decide +kernel
theorem own_d_prog_25_method_2_code_132 : decode prog_25_method_2_code 132 = .ok (.getfield 11, 3) := by decide +kernel
theorem own_d_prog_25_method_2_code_135 : decode prog_25_method_2_code 135 = .ok (.iload_n 3, 1) := by decide +kernel
theorem own_d_prog_25_method_2_code_136 : decode prog_25_method_2_code 136 = .ok (.aaload, 1) := by decide +kernel
theorem own_d_prog_25_method_2_code_137 : decode prog_25_method_2_code 137 = .ok (.iload 4, 2) := by decide +kernel
theorem own_d_prog_25_method_2_code_139 : decode prog_25_method_2_code 139 = .ok (.lload_n 1, 1) := by decide +kernel
theorem own_d_prog_25_method_2_code_140 : decode prog_25_method_2_code 140 = .ok (.lastore, 1) := by decide +kernel
theorem own_d_prog_25_method_2_code_141 : decode prog_25_method_2_code 141 = .ok (.aload_n 0, 1) := by decide +kernel
theorem own_d_prog_25_method_2_code_142 : decode prog_25_method_2_code 142 = .ok (.dup, 1) := by decide +kernel
theorem own_d_prog_25_method_2_code_143 : decode prog_25_method_2_code 143 = .ok (.getfield 15, 3) := by decide +kernel
theorem own_d_prog_25_method_2_code_146 : decode prog_25_method_2_code 146 = .ok (.dup_x1, 1) := by decide +kernel
theorem own_d_prog_25_method_2_code_147 : decode prog_25_method_2_code 147 = .ok (.iconst 1, 1) := by decide +kernel
theorem own_d_prog_25_method_2_code_148 : decode prog_25_method_2_code 148 = .ok (.iadd, 1) := by decide +kernel
theorem own_d_prog_25_method_2_code_149 : decode prog_25_method_2_code 149 = .ok (.putfield 15, 3) := by decide +kernel
theorem own_d_prog_25_method_2_code_152 : decode prog_25_method_2_code 152 = .ok (.ireturn, 1) := by decide +kernel
theorem own_d_prog_25_method_2_code_100 : decode prog_25_method_2_code 100 = .ok (.iload 4, 2) := by decide +kernel
theorem own_d_prog_25_method_2_code_102 : decode prog_25_method_2_code 102 = .ok (.aload_n 0, 1) := by decide +kernel
theorem own_d_prog_25_method_2_code_103 : decode prog_25_method_2_code 103 = .ok (.getfield 11, 3) := by decide +kernel
theorem own_d_prog_25_method_2_code_106 : decode prog_25_method_2_code 106 = .ok (.iload_n 3, 1) := by decide +kernel
theorem own_d_prog_25_method_2_code_107 : decode prog_25_method_2_code 107 = .ok (.aaload, 1) := by decide +kernel
theorem own_d_prog_25_method_2_code_108 : decode prog_25_method_2_code 108 = .ok (.arraylength, 1) := by decide +kernel
theorem own_d_prog_25_method_2_code_109 : decode prog_25_method_2_code 109 = .ok (.if_icmp .ne 22, 3) := by decide +kernel
theorem own_d_prog_25_method_4_code_0 : decode prog_25_method_4_code 0 = .ok (.aload_n 0, 1) := by decide +kernel
theorem own_d_prog_25_method_4_code_1 : decode prog_25_method_4_code 1 = .ok (.getfield 11, 3) := by decide +kernel
theorem own_d_prog_25_method_4_code_4 : decode prog_25_method_4_code 4 = .ok (.iload_n 1, 1) := by decide +kernel
theorem own_d_prog_25_method_4_code_5 : decode prog_25_method_4_code 5 = .ok (.bipush 13, 2) := by decide +kernel
theorem own_d_prog_25_method_4_code_7 : decode prog_25_method_4_code 7 = .ok (.iushr, 1) := by decide +kernel
theorem own_d_prog_25_method_4_code_8 : decode prog_25_method_4_code 8 = .ok (.aaload, 1) := by decide +kernel
theorem own_d_prog_25_method_4_code_9 : decode prog_25_method_4_code 9 = .ok (.iload_n 1, 1) := by decide +kernel
theorem own_d_prog_25_method_4_code_10 : decode prog_25_method_4_code 10 = .ok (.sipush 8191, 3) := by decide +kernel
theorem own_d_prog_25_method_4_code_13 : decode prog_25_method_4_code 13 = .ok (.iand, 1) := by decide +kernel
theorem own_d_prog_25_method_4_code_14 : decode prog_25_method_4_code 14 = .ok (.lload_n 2, 1) := by decide +kernel
theorem own_d_prog_25_method_4_code_15 : decode prog_25_method_4_code 15 = .ok (.lastore, 1) := by decide +kernel
theorem own_d_prog_25_method_4_code_16 : decode prog_25_method_4_code 16 = .ok (.return_, 1) := by decide +kernel
theorem own_d_prog_25_method_3_code_0 : decode prog_25_method_3_code 0 = .ok (.aload_n 0, 1) := by decide +kernel
theorem own_d_prog_25_method_3_code_1 : decode prog_25_method_3_code 1 = .ok (.getfield 11, 3) := by decide +kernel
theorem own_d_prog_25_method_3_code_4 : decode prog_25_method_3_code 4 = .ok (.iload_n 1, 1) := by decide +kernel
theorem own_d_prog_25_method_3_code_5 : decode prog_25_method_3_code 5 = .ok (.bipush 13, 2) := by decide +kernel
theorem own_d_prog_25_method_3_code_7 : decode prog_25_method_3_code 7 = .ok (.iushr, 1) := by decide +kernel
theorem own_d_prog_25_method_3_code_8 : decode prog_25_method_3_code 8 = .ok (.aaload, 1) := by decide +kernel
theorem own_d_prog_25_method_3_code_9 : decode prog_25_method_3_code 9 = .ok (.iload_n 1, 1) := by decide +kernel
theorem own_d_prog_25_method_3_code_10 : decode prog_25_method_3_code 10 = .ok (.sipush 8191, 3) := by decide +kernel
theorem own_d_prog_25_method_3_code_13 : decode prog_25_method_3_code 13 = .ok (.iand, 1) := by decide +kernel
theorem own_d_prog_25_method_3_code_14 : decode prog_25_method_3_code 14 = .ok (.laload, 1) := by decide +kernel
theorem own_d_prog_25_method_3_code_15 : decode prog_25_method_3_code 15 = .ok (.lreturn, 1) := by decide +kernel
theorem own_pd0 : parseMethodDescriptor "()V" = some ⟨[], none⟩ := by decide +kernel
theorem own_pd1 : parseMethodDescriptor "(J)I" = some ⟨[.long], some .int⟩ := by decide +kernel
theorem own_pd2 : parseMethodDescriptor "(IJ)V" = some ⟨[.int, .long], none⟩ := by decide +kernel
theorem own_pd3 : parseMethodDescriptor "(I)J" = some ⟨[.int], some .long⟩ := by decide +kernel
theorem own_pn0 : plainName "com/example/sameshape/sameshape/diff/LongColumn" = true := by first | (simp [plainName, overriddenIn]; done) | decide +kernel
theorem own_pn1 : plainName "com/example/sameshape/sameshape/diff/LongColumnSetPinLaw" = true := by first | (simp [plainName, overriddenIn]; done) | decide +kernel
def QL (n0 : Nat) (v : Option Value) (h : Heap) (L : List Loc) : Prop := v = some (.int 1) ∧ Fr n0 L
theorem own_lc0 {a b : Int64} (h : a = b) : lcmpW a b = 0 := (lcW a b).trans ((lc_eq a b).mpr h)
theorem own_lcn {a b : Int64} (h : ¬ a = b) : ¬ lcmpW a b = 0 := fun q => h ((lc_eq a b).mp ((lcW a b).symm.trans q))
theorem own_lclt {a b : Int64} (h : a < b) : lcmpW a b < 0 := (lcW a b).symm ▸ (lc_lt a b).mpr h
theorem own_lcge {a b : Int64} (h : ¬ a < b) : ¬ lcmpW a b < 0 := fun q => h ((lc_lt a b).mp ((lcW a b) ▸ q))
theorem own_lcgt {a b : Int64} (h : b < a) : 0 < lcmpW a b := (lcW a b).symm ▸ (lc_gt a b).mpr h
theorem own_lcle {a b : Int64} (h : ¬ b < a) : ¬ 0 < lcmpW a b := fun q => h ((lc_gt a b).mp ((lcW a b) ▸ q))
theorem own_sta_keep {Z : State} {h h' : Heap} {C n d : String} {v : Value} {ws : List Addr} (F : Sta Z h C n d v) (K : Keep h h' ws) (q : ∀ x ∈ ws, ∃ cl : Cell, h[x]? = some cl ∧ cl.vm.isStatics = false) : Sta Z h' C n d v := by
  obtain ⟨cf, i, k, f, st, cell, h1, h2, h3, h4, h5, h6, h7⟩ := F
  refine ⟨cf, i, k, f, st, cell, h1, h2, h3, h4, K.2.1 st cell h5 (fun hm => ?_), h6, h7⟩
  obtain ⟨cl, e1, e2⟩ := q st hm
  cases e1.symm.trans h5
  rw [e2] at h6; cases h6
/-- the array class cA is over the component class named C -/
def own_Ovr (Z : State) (cA : ClassId) (C : String) : Prop := ∃ (k : Class) (comp : ClassId) (ty : FieldType), Z.vm.classes[cA]? = some k ∧ k.kind = .array comp ty ∧ Z.vm.findClass C = some comp
theorem own_over {a0 : Array Value} {Z : State} {t : FieldType} (h : (Cond.arrayOver (.array t)).before a0 Z = true) :
    ∃ comp cA kA, Z.vm.findClass (FieldType.array t).toString = some comp ∧ (Z.vm.classes.findIdx? fun x => match x.kind with | .array component _ => component == comp | _ => false) = some cA ∧ Z.vm.classes[cA]? = some kA ∧ kA.kind = .array comp (.array t) := by
  obtain ⟨comp, c', k', h1, h2, h3, -⟩ := Cond.arrayOver_specA h
  have h0 := h
  simp only [Cond.before, Cond.holds, Cond.value, beq_iff_eq, h1, Option.bind_some, Option.bind_eq_some_iff, Option.map_eq_some_iff] at h0
  obtain ⟨c, hi, k, hk, hb⟩ := h0
  refine ⟨comp, c, k, h1, hi, hk, ?_⟩
  have hp := (Array.findIdx?_eq_some_iff_getElem.mp hi).2.1
  rw [(Array.getElem?_eq_some_iff.mp hk).2] at hp
  revert hb hp
  cases k.kind <;> simp
  intro q _ r; exact ⟨r, q⟩
section OwnNew
variable {p : Program} {l : Launch} {e : Env} {R : Room} {s : State} {m : MethodId} {args : Array Value} {below : List Frame} {meth : Method} {c : Code} {T : State} {locs : List Loc} {cells slots : Nat} {Z : State} {a0 : Array Value} {h : Heap}
theorem own_newRA (X : Stand p l e R s m args below meth c T locs cells slots) (hx : p.tables.exec = Jvm.exec) (hZ : Z.Warmed39 s.vm) {own C : String} {index : Nat} {t : FieldType} (hown : s.vm.findClass own = some m.cls) (w1 : (Cond.classLink own index C).before a0 Z = true) (w2 : (Cond.arrayOver (.array t)).before a0 Z = true) (hC : (FieldType.array t).toString = C)
    (eT : T.heap = h) {g : JFrame} (hg : g.method = m) (hd : decode c.code g.pc = .ok (.anewarray index, 3)) {n : Int32} {rest : List Value} (hs : g.stack = .int n :: rest) (hn : ¬ n < 0) {cap : Nat} (hcap : n.toNatClampNeg ≤ cap) (hb : cap * 8 ≤ 536870912) (hc : cells + 1 ≤ R.cells) (hl : slots + cap ≤ R.slots) :
    ∃ T' h' cA, Stand p l e R s m args below meth c T' locs (cells + 1) (slots + cap) ∧ T'.heap = h' ∧ Ext h h' ∧ Arr Z h' h.size (newA cA (.array t) n) (.array t) ∧ own_Ovr Z cA C ∧
      ∀ target, Steps p.tables e below (T'.setTop { g with pc := g.pc + 3, stack := .ref h.size :: rest }) target → Steps p.tables e below (T.setTop g) target := by
  subst hg eT
  obtain ⟨comp, cA, kA, hcomp, hidx, hkA, hkind⟩ := own_over w2
  rw [hC] at hcomp
  have hcompS : s.vm.findClass C = some comp := by rw [hZ.alike.findClass]; exact hcomp
  obtain ⟨cc, hfcc, hcl⟩ := Cond.classLink_spec hown (mv (args := args) hZ w1) e.platform (by rw [X.admits.platform])
  cases hcompS.symm.trans hfcc
  obtain ⟨q1, q2, q3⟩ := State.classEntry (e := e) X.warmed hcl
  generalize T.vm.noted g.method.cls index (.cls comp) = vm₁ at q1 q2 q3
  obtain ⟨kA', hkA', hk'⟩ := hZ.alike.2.2 _ _ hkA
  obtain ⟨kB, hkB, hk''⟩ := q2.alike.2.2 _ _ hkA'
  obtain ⟨kc, hkc, -⟩ := Vm.findClass_spec hcompS
  obtain ⟨kd, hkd, -⟩ := q2.alike.2.2 _ _ hkc
  have hkindB : kB.kind = .array comp (.array t) := by rw [hk'', hk']; exact hkind
  have hidxS : (s.vm.classes.findIdx? fun x => match x.kind with | .array component _ => component == comp | _ => false) = some cA := by
    rw [hZ.alike.findIdx?_eqK _ (fun _ => rfl)]; exact hidx
  have hidxB : (vm₁.classes.findIdx? fun x => match x.kind with | .array component _ => component == comp | _ => false) = some cA := by
    rw [q2.alike.findIdx?_eqK _ (fun _ => rfl)]; exact hidxS
  have r1 : ¬ n.toNatClampNeg > e.platform.arrayLengthLimit := by rw [Launch.admits_arrayLengthLimit X.admits]; omega
  have r2 : ¬ n.toNatClampNeg * componentBytes (.array t) > e.platform.maxHeapBytes := by
    rw [Launch.admits_maxHeapBytes X.admits]; show ¬ n.toNatClampNeg * 4 > 536870912; omega
  have Y := (X.noted q2).pushed { cls := cA, slots := Array.replicate n.toNatClampNeg .null, vm := .none }
  obtain ⟨u1, u2⟩ := X.roomAbove hc (show slots + n.toNatClampNeg ≤ R.slots by omega)
  have Y' : Stand p l e R s g.method args below meth c ((T.setVm vm₁).pushCell { cls := cA, slots := Array.replicate n.toNatClampNeg .null, vm := .none }) locs (cells + 1) (slots + n.toNatClampNeg) := by simpa using Y
  refine ⟨_, _, cA, Y'.more (Nat.le_refl _) (by omega), rfl, ext_of fun a q => Array.getElem?_push_lt q |>.trans (Array.getElem?_eq_getElem q).symm, ⟨by show (T.heap.push _)[T.heap.size]? = _; simp [newA, defaultValue], ⟨by simp [newA], kA, hkA, comp, hkind⟩, by simp [newA]⟩, ⟨kA, comp, _, hkA, hkind, hcomp⟩, fun target hrest => ?_⟩
  jvm_step X.here [hx, hd, anewarray.wp_cold (e := e) (s := T) (f := g) X.here.top q1 q3,
    anewarray.wp_ready (e := e) (s := T.setVm vm₁) (f := g) (kc := kd) (k := kB) (type := .array t) X.here.top q3 hkd hidxB hkB hkindB rfl hs hn r1 r2]
  exact ⟨by show T.heap.size < _; omega, by show T.slotsUsed + _ ≤ _; exact u2, hrest⟩
theorem own_stoA {a y : Addr} {cl : Cell} {ty : FieldType} {C : String} {k : ClassId} (A : Arr Z h a cl ty) (q : cl.cls = k) (O : own_Ovr Z k C) (I : Ins Z h y C true) : Sto Z h a (.ref y) := by
  subst q
  obtain ⟨ka, comp, t, o1, o2, o3⟩ := O
  obtain ⟨cv, cT, i1, i2, i3⟩ := I
  cases o3.symm.trans i2
  simp only [Bool.and_eq_true, Bool.not_eq_true'] at i3
  obtain ⟨kc, w⟩ := Vm.classAt_of_findClass o3
  obtain ⟨kv, w2⟩ := Vm.classAt_of_assignable i3.2 ⟨kc, w⟩
  exact Or.inr ⟨cl, cv, ka, kv, kc, _, _, y, A.1, o1, o2, w, rfl, i1, i3.1, w2, i3.2⟩
end OwnNew
theorem own_k (a : Int32) : ((a &&& (2147483647 : Int32)) % (3 : Int32)) = 0 ∨ ((a &&& (2147483647 : Int32)) % (3 : Int32)) = 1 ∨ ((a &&& (2147483647 : Int32)) % (3 : Int32)) = 2 := by
  have e1 : (a &&& 2147483647).toInt = a.toInt % 2 ^ 31 := Jvm.Kit.i32_mask a 2147483647 (k := 31) (by decide) (by decide)
  generalize (a &&& 2147483647) = x at *
  have t6 : (3 : Int32).toInt = 3 := by decide
  have d2 : (x % (3 : Int32)).toInt = x.toInt % 3 := by rw [Int32.toInt_mod, t6, Int.tmod_eq_emod_of_nonneg (by omega)]
  simp only [← Int32.toInt_inj, d2]
  show x.toInt % 3 = 0 ∨ x.toInt % 3 = 1 ∨ x.toInt % 3 = 2
  omega
def QI (Z : State) (a : Addr) (h0 : Heap) (n0 : Nat) (v : Option Value) (h : Heap) (L : List Loc) : Prop := v = none ∧ Fr n0 L ∧ Keep h0 h [a] ∧ ∃ bl kb, h0.size ≤ bl ∧ Fld Z h a "com/example/sameshape/sameshape/diff/LongColumn" "blocks" "[[J" (.ref bl) ∧ Fld Z h a "com/example/sameshape/sameshape/diff/LongColumn" "size" "I" (.int (0 : Int32)) ∧ Arv Z h bl kb (.array .long) (1 : Int32) [.null] .null ∧ own_Ovr Z kb "[J"
theorem own_ef_rmI (m : MethodId) (y0 : Addr) : entryFrame m #[(.ref y0)] 1 = mkF m 0 #[.val (.ref y0)] [] := by first | (simp [entryFrame, mkF, argsToLocals, Value.category]; done) | rfl
set_option maxRecDepth 65536 in
set_option maxHeartbeats 40000000 in
theorem rmI (l : Launch) (Z : State) (a0 : Array Value) (hw : ∀ d ∈ tables_1, d.before a0 Z = true) (ws : List Jvm.Cond) (a : Addr) (h0 : Heap) (n0 : Nat) (Z0 : n0 ≤ h0.size) (E_a : Exa Z h0 a "com/example/sameshape/sameshape/diff/LongColumn") (F1 : Fld Z h0 a "com/example/sameshape/sameshape/diff/LongColumn" "blocks" "[[J" .null) (F2 : Fld Z h0 a "com/example/sameshape/sameshape/diff/LongColumn" "size" "I" (.int (0 : Int32))) (g_a : n0 ≤ a) :
    MetFree l (⟨"com/example/sameshape/sameshape/diff/LongColumn", "<init>", "()V"⟩ : MethodName) (head1 (Jvm.Cond.code (⟨"com/example/sameshape/sameshape/diff/LongColumn", "<init>", "()V"⟩ : MethodName) prog_25_method_1_code 1 none :: ws) ({ frames := 1, cells := 1, slots := 1, locals := 12 } : Room)) (fun ar_ U => ar_ = #[(.ref a)] ∧ Z.Warmed39 U.vm ∧ U.heap = h0) (fun _ _ _ _ _ => True) (fun _ U o U' => ∃ v L, o = .returned v ∧ QI Z a h0 n0 v U'.heap L ∧ FrameEnd U o U' L ({ frames := 1, cells := 1, slots := 1, locals := 12 } : Room).cells ({ frames := 1, cells := 1, slots := 1, locals := 12 } : Room).slots) := by
  refine MetFree.of_bodySF (plainFor_of_name own_pn0) hisR ?_
  intro p e s m args below meth c s₁ Bd hml0 hP hK
  obtain ⟨rfl, hZ, hh⟩ := hP
  have hx := Bd.exec
  have hby := Bd.bytes
  have hml : c.maxLocals = 1 := hml0
  have hown : s.vm.findClass "com/example/sameshape/sameshape/diff/LongColumn" = some m.cls := findClass_of_methodNamed Bd.named
  have hnm := (name_of_methodNamed Bd.named Bd.method).1
  have X0 : Stand p l e ({ frames := 1, cells := 1, slots := 1, locals := 12 } : Room) s m #[(.ref a)] below meth c s₁ [] 0 0 := Stand.of_body Bd
  have e0 : s₁.heap = h0 := by rw [← hh, Bd.state]; rfl
  have N0 := Fr.nil n0
  have pre0 : ∀ t, Steps p.tables e below (s₁.setTop (mkF m 0 #[.val (.ref a)] [])) t → Steps p.tables e below (s₁.setTop (entryFrame m #[(.ref a)] 1)) t := fun t k => castTop (own_ef_rmI m a) k
  obtain ⟨T1, X1, e1, st1⟩ := initO X0 hx hZ hown (hw _ (List.mem_of_getElem? (i := 6) rfl)) (hw _ (List.mem_of_getElem? (i := 7) rfl)) (hw _ (List.mem_of_getElem? (i := 8) rfl)) e0 (g := (mkF m 1 #[.val (.ref a)] [(.ref a)])) rfl (by rw [hml]; rfl) rfl (hb hby own_d_prog_25_method_1_code_1) (by decide) (W := 0) (by show 2 * 0 + _ ≤ _; exact Nat.le_of_eq rfl) (by decide)
  obtain ⟨T2, h2, k2, X2, e2, E2, A2, O2, st2⟩ := own_newRA X1 hx hZ hown (hw _ (List.mem_of_getElem? (i := 9) rfl)) (hw _ (List.mem_of_getElem? (i := 10) rfl)) (by decide +kernel) e1 (g := (mkF m 6 #[.val (.ref a)] [(.int (1 : Int32)), (.ref a)])) rfl (hb hby own_d_prog_25_method_1_code_6) rfl (by decide) (cap := 1) (by decide) (by decide) (by decide) (by decide)
  obtain ⟨b2, g2⟩ : ∃ z, z = h0.size := ⟨_, rfl⟩
  rw [← g2] at A2 st2
  have ne_a_b2 : a ≠ b2 := Nat.ne_of_lt (Nat.lt_of_lt_of_le (E_a).lt (Nat.le_of_eq g2.symm))
  have g_b2 : n0 ≤ b2 := Nat.le_trans Z0 (Nat.le_of_eq g2.symm)
  have sz_b2 : h0.size ≤ b2 := Nat.le_trans (Keep.refl h0 [a]).1 (Nat.le_of_eq g2.symm)
  have F2_0 := F1.ext E2
  have F2_1 := F2.ext E2
  have X2_0 := E_a.ext E2
  have z2 : n0 ≤ h2.size := Nat.le_trans Z0 E2.1
  have K2 : Keep h0 h2 [a] := (Keep.refl h0 [a]).ext E2
  have V_b2 : Arv Z h2 b2 k2 (.array .long) (1 : Int32) [.null] .null := (Arv.new A2 (by decide)).pad (pad_rep [] .null 1)
  obtain ⟨T3, h3, X3, e3, W3, st3⟩ := putF X2 hx hZ hown (host := "") (Or.inl (hw _ (List.mem_of_getElem? (i := 11) rfl))) Via.refl e2 F2_0 X2_0 (Or.inl (hw _ (List.mem_of_getElem? (i := 12) rfl))) (hw _ (List.mem_of_getElem? (i := 1) rfl)) (ty := (.array (.array .long))) (by decide) rfl rfl (g := (mkF m 9 #[.val (.ref a)] [(.ref b2), (.ref a)])) rfl rfl (hb hby own_d_prog_25_method_1_code_9)
  have F3_0 := F2_0.same W3
  have F3_1 := F2_1.other W3 (Or.inr (slot_ne (Or.inl (hw _ (List.mem_of_getElem? (i := 19) rfl))) (Or.inl (hw _ (List.mem_of_getElem? (i := 12) rfl))) (by decide) (t := .int) (t' := (.array (.array .long))) (by decide) (by decide)))
  have X3_0 := X2_0.wr W3
  have V3_0 := V_b2.other W3 (Ne.symm ne_a_b2)
  have z3 : n0 ≤ h3.size := by rw [W3.size]; exact z2
  have K3 : Keep h0 h3 [a] := K2.wr W3 (Or.inl (by simp))
  have N3 := Fr.snoc X3 N0 g_a
  have pre4 : ∀ t, Steps p.tables e below (T3.setTop (mkF m 12 #[.val (.ref a)] [])) t → Steps p.tables e below (s₁.setTop (entryFrame m #[(.ref a)] 1)) t := fun t k => pre0 t (by
    show Steps p.tables e below (s₁.setTop (mkF m 0 #[.val (.ref a)] [])) _
    refine XS.aloadN X0.here hx rfl (hb hby own_d_prog_25_method_1_code_0) rfl rfl ?_
    show Steps p.tables e below (s₁.setTop (mkF m 1 #[.val (.ref a)] [(.ref a)])) _
    refine st1 _ ?_
    show Steps p.tables e below (T1.setTop (mkF m 4 #[.val (.ref a)] [])) _
    refine XS.aloadN X1.here hx rfl (hb hby own_d_prog_25_method_1_code_4) rfl rfl ?_
    show Steps p.tables e below (T1.setTop (mkF m 5 #[.val (.ref a)] [(.ref a)])) _
    refine XS.iconst X1.here hx rfl (hb hby own_d_prog_25_method_1_code_5) ?_
    show Steps p.tables e below (T1.setTop (mkF m 6 #[.val (.ref a)] [(.int (1 : Int32)), (.ref a)])) _
    refine st2 _ ?_
    show Steps p.tables e below (T2.setTop (mkF m 9 #[.val (.ref a)] [(.ref b2), (.ref a)])) _
    refine st3 _ ?_
    exact k)
  obtain ⟨fs, hr, hrun, hended, hW, hsame⟩ := X3.leave (v := none) (fun _ => rfl)
  refine ⟨_, _, pre4 _ ?_, hrun, hended, _, _, rfl, ?_, ⟨_, rfl⟩, hW, hsame.mono (by decide) (by decide)⟩
  · show Steps p.tables e below (T3.setTop (mkF m 12 #[.val (.ref a)] [])) _
    exact X3.returnOut hx Bd.returns (hb hby own_d_prog_25_method_1_code_12) hr
  · show QI Z a h0 n0 _ T3.heap _
    rw [e3]
    exact ⟨rfl, N3, K3, b2, _, sz_b2, F3_0, F3_1, V3_0, O2⟩
def QA (Z : State) (a bl : Addr) (kb : ClassId) (x : Int64) (h0 : Heap) (n0 : Nat) (v : Option Value) (h : Heap) (L : List Loc) : Prop := v = some (.int (0 : Int32)) ∧ Fr n0 L ∧ Keep h0 h [a, bl] ∧ ∃ ch kc, h0.size ≤ ch ∧ Fld Z h a "com/example/sameshape/sameshape/diff/LongColumn" "blocks" "[[J" (.ref bl) ∧ Fld Z h a "com/example/sameshape/sameshape/diff/LongColumn" "size" "I" (.int (1 : Int32)) ∧ Arv Z h bl kb (.array .long) (1 : Int32) [(.ref ch)] .null ∧ Arv Z h ch kc .long (128 : Int32) [(.long x), (.long (0 : Int64)), (.long (0 : Int64))] (.long (0 : Int64))
theorem own_ef_rmA (m : MethodId) (y0 : Addr) (y1 : Int64) : entryFrame m #[(.ref y0), (.long y1)] 5 = mkF m 0 #[.val (.ref y0), .val (.long y1), .second, .unset, .unset] [] := by first | (simp [entryFrame, mkF, argsToLocals, Value.category]; done) | rfl
set_option maxRecDepth 65536 in
set_option maxHeartbeats 40000000 in
theorem rmA (l : Launch) (Z : State) (a0 : Array Value) (hw : ∀ d ∈ tables_1, d.before a0 Z = true) (ws : List Jvm.Cond) (a : Addr) (x : Int64) (bl : Addr) (kb : ClassId) (h0 : Heap) (n0 : Nat) (Z0 : n0 ≤ h0.size) (E_a : Exa Z h0 a "com/example/sameshape/sameshape/diff/LongColumn") (g_a : n0 ≤ a) (F1 : Fld Z h0 a "com/example/sameshape/sameshape/diff/LongColumn" "blocks" "[[J" (.ref bl)) (g_bl : n0 ≤ bl) (O : own_Ovr Z kb "[J") (ne_a_bl : a ≠ bl) (F2 : Fld Z h0 a "com/example/sameshape/sameshape/diff/LongColumn" "size" "I" (.int (0 : Int32))) (A1 : Arv Z h0 bl kb (.array .long) (1 : Int32) [.null] .null) :
    MetFree l (⟨"com/example/sameshape/sameshape/diff/LongColumn", "add", "(J)I"⟩ : MethodName) (head1 (Jvm.Cond.code (⟨"com/example/sameshape/sameshape/diff/LongColumn", "add", "(J)I"⟩ : MethodName) prog_25_method_2_code 5 (some .int) :: ws) ({ frames := 0, cells := 1, slots := 128, locals := 0 } : Room)) (fun ar_ U => ar_ = #[(.ref a), (.long x)] ∧ Z.Warmed39 U.vm ∧ U.heap = h0) (fun _ _ _ _ _ => True) (fun _ U o U' => ∃ v L, o = .returned v ∧ QA Z a bl kb x h0 n0 v U'.heap L ∧ FrameEnd U o U' L ({ frames := 0, cells := 1, slots := 128, locals := 0 } : Room).cells ({ frames := 0, cells := 1, slots := 128, locals := 0 } : Room).slots) := by
  refine MetFree.of_bodySF (plainFor_of_name own_pn0) hisR ?_
  intro p e s m args below meth c s₁ Bd hml0 hP hK
  obtain ⟨rfl, hZ, hh⟩ := hP
  have hx := Bd.exec
  have hby := Bd.bytes
  have hml : c.maxLocals = 5 := hml0
  have hown : s.vm.findClass "com/example/sameshape/sameshape/diff/LongColumn" = some m.cls := findClass_of_methodNamed Bd.named
  have hnm := (name_of_methodNamed Bd.named Bd.method).1
  have X0 : Stand p l e ({ frames := 0, cells := 1, slots := 128, locals := 0 } : Room) s m #[(.ref a), (.long x)] below meth c s₁ [] 0 0 := Stand.of_body Bd
  have e0 : s₁.heap = h0 := by rw [← hh, Bd.state]; rfl
  have N0 := Fr.nil n0
  have pre0 : ∀ t, Steps p.tables e below (s₁.setTop (mkF m 0 #[.val (.ref a), .val (.long x), .second, .unset, .unset] [])) t → Steps p.tables e below (s₁.setTop (entryFrame m #[(.ref a), (.long x)] 5)) t := fun t k => castTop (own_ef_rmA m a x) k
  obtain ⟨T1, X1, e1, st1⟩ := getF X0 hx hZ hown (host := "") (Or.inl (hw _ (List.mem_of_getElem? (i := 18) rfl))) Via.refl e0 F2 (g := (mkF m 1 #[.val (.ref a), .val (.long x), .second, .unset, .unset] [(.ref a)])) rfl rfl (hb hby own_d_prog_25_method_2_code_1)
  obtain ⟨T2, X2, e2, st2⟩ := getF X1 hx hZ hown (host := "") (Or.inl (hw _ (List.mem_of_getElem? (i := 18) rfl))) Via.refl e1 F2 (g := (mkF m 20 #[.val (.ref a), .val (.long x), .second, .unset, .unset] [(.ref a)])) rfl rfl (hb hby own_d_prog_25_method_2_code_20)
  have fold3 : (((0 : Int32).toUInt32 >>> ((13 : Int32) &&& 31).toUInt32).toInt32) = (0 : Int32) := by decide +kernel
  obtain ⟨T4, X4, e4, st4⟩ := getF X2 hx hZ hown (host := "") (Or.inl (hw _ (List.mem_of_getElem? (i := 18) rfl))) Via.refl e2 F2 (g := (mkF m 28 #[.val (.ref a), .val (.long x), .second, .val (.int (0 : Int32)), .unset] [(.ref a)])) rfl rfl (hb hby own_d_prog_25_method_2_code_28)
  have fold5 : ((0 : Int32) &&& (8191 : Int32)) = (0 : Int32) := by decide +kernel
  obtain ⟨T6, X6, e6, st6⟩ := getF X4 hx hZ hown (host := "") (Or.inl (hw _ (List.mem_of_getElem? (i := 11) rfl))) Via.refl e4 F1 (g := (mkF m 39 #[.val (.ref a), .val (.long x), .second, .val (.int (0 : Int32)), .val (.int (0 : Int32))] [(.ref a), (.int (0 : Int32))])) rfl rfl (hb hby own_d_prog_25_method_2_code_39)
  obtain ⟨cl7, Ar7, q7, S7, M7, H7, G7⟩ := id A1
  obtain ⟨T8, X8, e8, st8⟩ := getF X6 hx hZ hown (host := "") (Or.inl (hw _ (List.mem_of_getElem? (i := 11) rfl))) Via.refl e6 F1 (g := (mkF m 68 #[.val (.ref a), .val (.long x), .second, .val (.int (0 : Int32)), .val (.int (0 : Int32))] [(.ref a)])) rfl rfl (hb hby own_d_prog_25_method_2_code_68)
  obtain ⟨cl9, Ar9, q9, S9, M9, H9, G9⟩ := id A1
  have hin9 : ¬ ((0 : Int32) < 0 ∨ cl9.slots.size ≤ ((0 : Int32)).toNatClampNeg) := inb_of S9 ⟨by decide, by decide⟩
  have hat9 : cl9.slots[((0 : Int32)).toNatClampNeg]? = some .null := Has.at H9 hin9 rfl
  obtain ⟨T10, X10, e10, st10⟩ := getF X8 hx hZ hown (host := "") (Or.inl (hw _ (List.mem_of_getElem? (i := 11) rfl))) Via.refl e8 F1 (g := (mkF m 77 #[.val (.ref a), .val (.long x), .second, .val (.int (0 : Int32)), .val (.int (0 : Int32))] [(.ref a)])) rfl rfl (hb hby own_d_prog_25_method_2_code_77)
  obtain ⟨T11, h11, k11, X11, e11, E11, A11, Ea11, st11⟩ := newPE X10 hx hZ (hw _ (List.mem_of_getElem? (i := 21) rfl)) e10 (g := (mkF m 94 #[.val (.ref a), .val (.long x), .second, .val (.int (0 : Int32)), .val (.int (0 : Int32))] [(.int (128 : Int32)), (.int (0 : Int32)), (.ref bl)])) rfl (hb hby own_d_prog_25_method_2_code_94) rfl (by decide) (cap := 128) (by decide) (by decide) (by decide) (by decide) (ad := "[J") (by decide +kernel)
  obtain ⟨b11, g11⟩ : ∃ z, z = h0.size := ⟨_, rfl⟩
  rw [← g11] at A11 st11 Ea11
  have ne_a_b11 : a ≠ b11 := Nat.ne_of_lt (Nat.lt_of_lt_of_le (E_a).lt (Nat.le_of_eq g11.symm))
  have ne_bl_b11 : bl ≠ b11 := Nat.ne_of_lt (Nat.lt_of_lt_of_le (A1).lt (Nat.le_of_eq g11.symm))
  have g_b11 : n0 ≤ b11 := Nat.le_trans Z0 (Nat.le_of_eq g11.symm)
  have sz_b11 : h0.size ≤ b11 := Nat.le_trans (Keep.refl h0 [a, bl]).1 (Nat.le_of_eq g11.symm)
  have F11_0 := F1.ext E11
  have F11_1 := F2.ext E11
  have X11_0 := E_a.ext E11
  have V11_0 := A1.ext E11
  have z11 : n0 ≤ h11.size := Nat.le_trans Z0 E11.1
  have K11 : Keep h0 h11 [a, bl] := (Keep.refl h0 [a, bl]).ext E11
  have V_b11 : Arv Z h11 b11 k11 .long (128 : Int32) [(.long (0 : Int64)), (.long (0 : Int64)), (.long (0 : Int64))] (.long (0 : Int64)) := (Arv.new A11 (by decide)).pad (pad_rep [] (.long (0 : Int64)) 3)
  obtain ⟨cl12, Ar12, q12, S12, M12, H12, G12⟩ := id V11_0
  have hin12 : ¬ ((0 : Int32) < 0 ∨ cl12.slots.size ≤ ((0 : Int32)).toNatClampNeg) := inb_of S12 ⟨by decide, by decide⟩
  obtain ⟨T13, h13, X13, e13, W13, st13⟩ := stR X11 hx hZ e11 Ar12 (j := (0 : Int32)) hin12 rfl (own_stoA Ar12 q12 O (Ins.self Ea11)) (g := (mkF m 96 #[.val (.ref a), .val (.long x), .second, .val (.int (0 : Int32)), .val (.int (0 : Int32))] [(.ref b11), (.int (0 : Int32)), (.ref bl)])) rfl rfl (hb hby own_d_prog_25_method_2_code_96)
  have V_bl_13 : Arv Z h13 bl kb (.array .long) (1 : Int32) [(.ref b11)] .null := Arv.set Ar12 q12 S12 M12 H12 G12 rfl W13 0 rfl (Nat.le_of_ble_eq_true rfl)
  have F13_0 := F11_0.other W13 (Or.inl ne_a_bl)
  have F13_1 := F11_1.other W13 (Or.inl ne_a_bl)
  have X13_0 := X11_0.wr W13
  have X13_1 := Ea11.wr W13
  have V13_1 := V_b11.other W13 (Ne.symm ne_bl_b11)
  have z13 : n0 ≤ h13.size := by rw [W13.size]; exact z11
  have K13 : Keep h0 h13 [a, bl] := K11.wr W13 (Or.inl (by simp))
  have N13 := Fr.snoc X13 N0 g_bl
  obtain ⟨T14, X14, e14, st14⟩ := getF X13 hx hZ hown (host := "") (Or.inl (hw _ (List.mem_of_getElem? (i := 11) rfl))) Via.refl e13 F13_0 (g := (mkF m 132 #[.val (.ref a), .val (.long x), .second, .val (.int (0 : Int32)), .val (.int (0 : Int32))] [(.ref a)])) rfl rfl (hb hby own_d_prog_25_method_2_code_132)
  obtain ⟨cl15, Ar15, q15, S15, M15, H15, G15⟩ := id V_bl_13
  have hin15 : ¬ ((0 : Int32) < 0 ∨ cl15.slots.size ≤ ((0 : Int32)).toNatClampNeg) := inb_of S15 ⟨by decide, by decide⟩
  have hat15 : cl15.slots[((0 : Int32)).toNatClampNeg]? = some (.ref b11) := Has.at H15 hin15 rfl
  obtain ⟨cl16, Ar16, q16, S16, M16, H16, G16⟩ := id V13_1
  have hin16 : ¬ ((0 : Int32) < 0 ∨ cl16.slots.size ≤ ((0 : Int32)).toNatClampNeg) := inb_of S16 ⟨by decide, by decide⟩
  obtain ⟨T17, h17, X17, e17, W17, st17⟩ := stJ X14 hx hZ e14 Ar16 (j := (0 : Int32)) hin16 (g := (mkF m 140 #[.val (.ref a), .val (.long x), .second, .val (.int (0 : Int32)), .val (.int (0 : Int32))] [(.long x), (.int (0 : Int32)), (.ref b11)])) rfl rfl (hb hby own_d_prog_25_method_2_code_140)
  have V_b11_17 : Arv Z h17 b11 k11 .long (128 : Int32) [(.long x), (.long (0 : Int64)), (.long (0 : Int64))] (.long (0 : Int64)) := Arv.set Ar16 q16 S16 M16 H16 G16 rfl W17 0 rfl (Nat.le_of_ble_eq_true rfl)
  have F17_0 := F13_0.other W17 (Or.inl ne_a_b11)
  have F17_1 := F13_1.other W17 (Or.inl ne_a_b11)
  have X17_0 := X13_0.wr W17
  have X17_1 := X13_1.wr W17
  have V17_0 := V_bl_13.other W17 ne_bl_b11
  have z17 : n0 ≤ h17.size := by rw [W17.size]; exact z13
  have K17 : Keep h0 h17 [a, bl] := K13.wr W17 (Or.inr sz_b11)
  have N17 := Fr.snoc X17 N13 g_b11
  obtain ⟨T18, X18, e18, st18⟩ := getF X17 hx hZ hown (host := "") (Or.inl (hw _ (List.mem_of_getElem? (i := 18) rfl))) Via.refl e17 F17_1 (g := (mkF m 143 #[.val (.ref a), .val (.long x), .second, .val (.int (0 : Int32)), .val (.int (0 : Int32))] [(.ref a), (.ref a)])) rfl rfl (hb hby own_d_prog_25_method_2_code_143)
  have fold19 : ((0 : Int32) + (1 : Int32)) = (1 : Int32) := by decide +kernel
  obtain ⟨T20, h20, X20, e20, W20, st20⟩ := putF X18 hx hZ hown (host := "") (Or.inl (hw _ (List.mem_of_getElem? (i := 18) rfl))) Via.refl e18 F17_1 X17_0 (Or.inl (hw _ (List.mem_of_getElem? (i := 19) rfl))) (hw _ (List.mem_of_getElem? (i := 1) rfl)) (ty := .int) (by decide) rfl rfl (g := (mkF m 149 #[.val (.ref a), .val (.long x), .second, .val (.int (0 : Int32)), .val (.int (0 : Int32))] [(.int (1 : Int32)), (.ref a), (.int (0 : Int32))])) rfl rfl (hb hby own_d_prog_25_method_2_code_149)
  have F20_0 := F17_0.other W20 (Or.inr (slot_ne (Or.inl (hw _ (List.mem_of_getElem? (i := 12) rfl))) (Or.inl (hw _ (List.mem_of_getElem? (i := 19) rfl))) (by decide) (t := (.array (.array .long))) (t' := .int) (by decide) (by decide)))
  have F20_1 := F17_1.same W20
  have X20_0 := X17_0.wr W20
  have X20_1 := X17_1.wr W20
  have V20_0 := V17_0.other W20 (Ne.symm ne_a_bl)
  have V20_1 := V_b11_17.other W20 (Ne.symm ne_a_b11)
  have z20 : n0 ≤ h20.size := by rw [W20.size]; exact z17
  have K20 : Keep h0 h20 [a, bl] := K17.wr W20 (Or.inl (by simp))
  have N20 := Fr.snoc X20 N17 g_a
  have pre21 : ∀ t, Steps p.tables e below (T20.setTop (mkF m 152 #[.val (.ref a), .val (.long x), .second, .val (.int (0 : Int32)), .val (.int (0 : Int32))] [(.int (0 : Int32))])) t → Steps p.tables e below (s₁.setTop (entryFrame m #[(.ref a), (.long x)] 5)) t := fun t k => pre0 t (by
    show Steps p.tables e below (s₁.setTop (mkF m 0 #[.val (.ref a), .val (.long x), .second, .unset, .unset] [])) _
    refine XS.aloadN X0.here hx rfl (hb hby own_d_prog_25_method_2_code_0) rfl rfl ?_
    show Steps p.tables e below (s₁.setTop (mkF m 1 #[.val (.ref a), .val (.long x), .second, .unset, .unset] [(.ref a)])) _
    refine st1 _ ?_
    show Steps p.tables e below (T1.setTop (mkF m 4 #[.val (.ref a), .val (.long x), .second, .unset, .unset] [(.int (0 : Int32))])) _
    refine X1.ldcInt hx hown (mvT hZ (hw _ (List.mem_of_getElem? (i := 20) rfl))) (g := (mkF m 4 #[.val (.ref a), .val (.long x), .second, .unset, .unset] [(.int (0 : Int32))])) rfl (hb hby own_d_prog_25_method_2_code_4) _ ?_
    show Steps p.tables e below (T1.setTop (mkF m 6 #[.val (.ref a), .val (.long x), .second, .unset, .unset] [(.int (2147483647 : Int32)), (.int (0 : Int32))])) _
    refine XS.icmpYes X1.here hx rfl (pc0 := 6) (pc' := 19) rfl (hb hby own_d_prog_25_method_2_code_6) rfl (feq ((by decide) : ¬ ((0 : Int32) = (2147483647 : Int32)))).2 (by decide) (by decide) ?_
    show Steps p.tables e below (T1.setTop (mkF m 19 #[.val (.ref a), .val (.long x), .second, .unset, .unset] [])) _
    refine XS.aloadN X1.here hx rfl (hb hby own_d_prog_25_method_2_code_19) rfl rfl ?_
    show Steps p.tables e below (T1.setTop (mkF m 20 #[.val (.ref a), .val (.long x), .second, .unset, .unset] [(.ref a)])) _
    refine st2 _ ?_
    show Steps p.tables e below (T2.setTop (mkF m 23 #[.val (.ref a), .val (.long x), .second, .unset, .unset] [(.int (0 : Int32))])) _
    refine XS.bipush X2.here hx rfl (hb hby own_d_prog_25_method_2_code_23) ?_
    show Steps p.tables e below (T2.setTop (mkF m 25 #[.val (.ref a), .val (.long x), .second, .unset, .unset] [(.int (13 : Int32)), (.int (0 : Int32))])) _
    refine XS.iushr X2.here hx rfl (hb hby own_d_prog_25_method_2_code_25) rfl ?_
    show Steps p.tables e below (T2.setTop (mkF m 26 #[.val (.ref a), .val (.long x), .second, .unset, .unset] [(.int (((0 : Int32).toUInt32 >>> ((13 : Int32) &&& 31).toUInt32).toInt32))])) _
    rw [fold3]
    show Steps p.tables e below (T2.setTop (mkF m 26 #[.val (.ref a), .val (.long x), .second, .unset, .unset] [(.int (0 : Int32))])) _
    refine XS.istoreN X2.here hx rfl (hb hby own_d_prog_25_method_2_code_26) rfl (l' := #[.val (.ref a), .val (.long x), .second, .val (.int (0 : Int32)), .unset]) rfl ?_
    show Steps p.tables e below (T2.setTop (mkF m 27 #[.val (.ref a), .val (.long x), .second, .val (.int (0 : Int32)), .unset] [])) _
    refine XS.aloadN X2.here hx rfl (hb hby own_d_prog_25_method_2_code_27) rfl rfl ?_
    show Steps p.tables e below (T2.setTop (mkF m 28 #[.val (.ref a), .val (.long x), .second, .val (.int (0 : Int32)), .unset] [(.ref a)])) _
    refine st4 _ ?_
    show Steps p.tables e below (T4.setTop (mkF m 31 #[.val (.ref a), .val (.long x), .second, .val (.int (0 : Int32)), .unset] [(.int (0 : Int32))])) _
    refine XS.sipush X4.here hx rfl (hb hby own_d_prog_25_method_2_code_31) ?_
    show Steps p.tables e below (T4.setTop (mkF m 34 #[.val (.ref a), .val (.long x), .second, .val (.int (0 : Int32)), .unset] [(.int (8191 : Int32)), (.int (0 : Int32))])) _
    refine XS.iand X4.here hx rfl (hb hby own_d_prog_25_method_2_code_34) rfl ?_
    show Steps p.tables e below (T4.setTop (mkF m 35 #[.val (.ref a), .val (.long x), .second, .val (.int (0 : Int32)), .unset] [(.int ((0 : Int32) &&& (8191 : Int32)))])) _
    rw [fold5]
    show Steps p.tables e below (T4.setTop (mkF m 35 #[.val (.ref a), .val (.long x), .second, .val (.int (0 : Int32)), .unset] [(.int (0 : Int32))])) _
    refine XS.istore X4.here hx rfl (hb hby own_d_prog_25_method_2_code_35) rfl (l' := #[.val (.ref a), .val (.long x), .second, .val (.int (0 : Int32)), .val (.int (0 : Int32))]) rfl ?_
    show Steps p.tables e below (T4.setTop (mkF m 37 #[.val (.ref a), .val (.long x), .second, .val (.int (0 : Int32)), .val (.int (0 : Int32))] [])) _
    refine XS.iloadN X4.here hx rfl (hb hby own_d_prog_25_method_2_code_37) rfl ?_
    show Steps p.tables e below (T4.setTop (mkF m 38 #[.val (.ref a), .val (.long x), .second, .val (.int (0 : Int32)), .val (.int (0 : Int32))] [(.int (0 : Int32))])) _
    refine XS.aloadN X4.here hx rfl (hb hby own_d_prog_25_method_2_code_38) rfl rfl ?_
    show Steps p.tables e below (T4.setTop (mkF m 39 #[.val (.ref a), .val (.long x), .second, .val (.int (0 : Int32)), .val (.int (0 : Int32))] [(.ref a), (.int (0 : Int32))])) _
    refine st6 _ ?_
    show Steps p.tables e below (T6.setTop (mkF m 42 #[.val (.ref a), .val (.long x), .second, .val (.int (0 : Int32)), .val (.int (0 : Int32))] [(.ref bl), (.int (0 : Int32))])) _
    refine X6.arraylength hx (by rw [e6]; exact Ar7.1) (State.isArrayOf_alike hZ.alike Ar7.2.1) (g := (mkF m 42 #[.val (.ref a), .val (.long x), .second, .val (.int (0 : Int32)), .val (.int (0 : Int32))] [(.ref bl), (.int (0 : Int32))])) rfl rfl (hb hby own_d_prog_25_method_2_code_42) _ ?_
    rw [len_of S7 M7]
    show Steps p.tables e below (T6.setTop (mkF m 43 #[.val (.ref a), .val (.long x), .second, .val (.int (0 : Int32)), .val (.int (0 : Int32))] [(.int (1 : Int32)), (.int (0 : Int32))])) _
    refine XS.icmpYes X6.here hx rfl (pc0 := 43) (pc' := 67) rfl (hb hby own_d_prog_25_method_2_code_43) rfl (feq ((by decide) : ¬ ((0 : Int32) = (1 : Int32)))).2 (by decide) (by decide) ?_
    show Steps p.tables e below (T6.setTop (mkF m 67 #[.val (.ref a), .val (.long x), .second, .val (.int (0 : Int32)), .val (.int (0 : Int32))] [])) _
    refine XS.aloadN X6.here hx rfl (hb hby own_d_prog_25_method_2_code_67) rfl rfl ?_
    show Steps p.tables e below (T6.setTop (mkF m 68 #[.val (.ref a), .val (.long x), .second, .val (.int (0 : Int32)), .val (.int (0 : Int32))] [(.ref a)])) _
    refine st8 _ ?_
    show Steps p.tables e below (T8.setTop (mkF m 71 #[.val (.ref a), .val (.long x), .second, .val (.int (0 : Int32)), .val (.int (0 : Int32))] [(.ref bl)])) _
    refine XS.iloadN X8.here hx rfl (hb hby own_d_prog_25_method_2_code_71) rfl ?_
    show Steps p.tables e below (T8.setTop (mkF m 72 #[.val (.ref a), .val (.long x), .second, .val (.int (0 : Int32)), .val (.int (0 : Int32))] [(.int (0 : Int32)), (.ref bl)])) _
    refine X8.aaload hx (j := (0 : Int32)) (v := .null) (by rw [e8]; exact Ar9.1) (State.isArrayOf_alike hZ.alike Ar9.2.1) rfl Ar9.2.2 hin9 hat9 (g := (mkF m 72 #[.val (.ref a), .val (.long x), .second, .val (.int (0 : Int32)), .val (.int (0 : Int32))] [(.int (0 : Int32)), (.ref bl)])) rfl rfl (hb hby own_d_prog_25_method_2_code_72) _ ?_
    show Steps p.tables e below (T8.setTop (mkF m 73 #[.val (.ref a), .val (.long x), .second, .val (.int (0 : Int32)), .val (.int (0 : Int32))] [.null])) _
    refine XS.ifnonnullNo X8.here hx rfl (hb hby own_d_prog_25_method_2_code_73) rfl ?_
    show Steps p.tables e below (T8.setTop (mkF m 76 #[.val (.ref a), .val (.long x), .second, .val (.int (0 : Int32)), .val (.int (0 : Int32))] [])) _
    refine XS.aloadN X8.here hx rfl (hb hby own_d_prog_25_method_2_code_76) rfl rfl ?_
    show Steps p.tables e below (T8.setTop (mkF m 77 #[.val (.ref a), .val (.long x), .second, .val (.int (0 : Int32)), .val (.int (0 : Int32))] [(.ref a)])) _
    refine st10 _ ?_
    show Steps p.tables e below (T10.setTop (mkF m 80 #[.val (.ref a), .val (.long x), .second, .val (.int (0 : Int32)), .val (.int (0 : Int32))] [(.ref bl)])) _
    refine XS.iloadN X10.here hx rfl (hb hby own_d_prog_25_method_2_code_80) rfl ?_
    show Steps p.tables e below (T10.setTop (mkF m 81 #[.val (.ref a), .val (.long x), .second, .val (.int (0 : Int32)), .val (.int (0 : Int32))] [(.int (0 : Int32)), (.ref bl)])) _
    refine XS.iloadN X10.here hx rfl (hb hby own_d_prog_25_method_2_code_81) rfl ?_
    show Steps p.tables e below (T10.setTop (mkF m 82 #[.val (.ref a), .val (.long x), .second, .val (.int (0 : Int32)), .val (.int (0 : Int32))] [(.int (0 : Int32)), (.int (0 : Int32)), (.ref bl)])) _
    refine XS.ifNo X10.here hx rfl (hb hby own_d_prog_25_method_2_code_82) rfl ((if0 _ _).trans (teq ((by decide) : (0 : Int32) = (0 : Int32))).2) ?_
    show Steps p.tables e below (T10.setTop (mkF m 85 #[.val (.ref a), .val (.long x), .second, .val (.int (0 : Int32)), .val (.int (0 : Int32))] [(.int (0 : Int32)), (.ref bl)])) _
    refine XS.sipush X10.here hx rfl (hb hby own_d_prog_25_method_2_code_85) ?_
    show Steps p.tables e below (T10.setTop (mkF m 88 #[.val (.ref a), .val (.long x), .second, .val (.int (0 : Int32)), .val (.int (0 : Int32))] [(.int (128 : Int32)), (.int (0 : Int32)), (.ref bl)])) _
    refine XS.goto X10.here hx rfl (pc0 := 88) (pc' := 94) rfl (hb hby own_d_prog_25_method_2_code_88) (by decide) (by decide) ?_
    show Steps p.tables e below (T10.setTop (mkF m 94 #[.val (.ref a), .val (.long x), .second, .val (.int (0 : Int32)), .val (.int (0 : Int32))] [(.int (128 : Int32)), (.int (0 : Int32)), (.ref bl)])) _
    refine st11 _ ?_
    show Steps p.tables e below (T11.setTop (mkF m 96 #[.val (.ref a), .val (.long x), .second, .val (.int (0 : Int32)), .val (.int (0 : Int32))] [(.ref b11), (.int (0 : Int32)), (.ref bl)])) _
    refine st13 _ ?_
    show Steps p.tables e below (T13.setTop (mkF m 97 #[.val (.ref a), .val (.long x), .second, .val (.int (0 : Int32)), .val (.int (0 : Int32))] [])) _
    refine XS.goto X13.here hx rfl (pc0 := 97) (pc' := 131) rfl (hb hby own_d_prog_25_method_2_code_97) (by decide) (by decide) ?_
    show Steps p.tables e below (T13.setTop (mkF m 131 #[.val (.ref a), .val (.long x), .second, .val (.int (0 : Int32)), .val (.int (0 : Int32))] [])) _
    refine XS.aloadN X13.here hx rfl (hb hby own_d_prog_25_method_2_code_131) rfl rfl ?_
    show Steps p.tables e below (T13.setTop (mkF m 132 #[.val (.ref a), .val (.long x), .second, .val (.int (0 : Int32)), .val (.int (0 : Int32))] [(.ref a)])) _
    refine st14 _ ?_
    show Steps p.tables e below (T14.setTop (mkF m 135 #[.val (.ref a), .val (.long x), .second, .val (.int (0 : Int32)), .val (.int (0 : Int32))] [(.ref bl)])) _
    refine XS.iloadN X14.here hx rfl (hb hby own_d_prog_25_method_2_code_135) rfl ?_
    show Steps p.tables e below (T14.setTop (mkF m 136 #[.val (.ref a), .val (.long x), .second, .val (.int (0 : Int32)), .val (.int (0 : Int32))] [(.int (0 : Int32)), (.ref bl)])) _
    refine X14.aaload hx (j := (0 : Int32)) (v := (.ref b11)) (by rw [e14]; exact Ar15.1) (State.isArrayOf_alike hZ.alike Ar15.2.1) rfl Ar15.2.2 hin15 hat15 (g := (mkF m 136 #[.val (.ref a), .val (.long x), .second, .val (.int (0 : Int32)), .val (.int (0 : Int32))] [(.int (0 : Int32)), (.ref bl)])) rfl rfl (hb hby own_d_prog_25_method_2_code_136) _ ?_
    show Steps p.tables e below (T14.setTop (mkF m 137 #[.val (.ref a), .val (.long x), .second, .val (.int (0 : Int32)), .val (.int (0 : Int32))] [(.ref b11)])) _
    refine XS.iload X14.here hx rfl (hb hby own_d_prog_25_method_2_code_137) rfl ?_
    show Steps p.tables e below (T14.setTop (mkF m 139 #[.val (.ref a), .val (.long x), .second, .val (.int (0 : Int32)), .val (.int (0 : Int32))] [(.int (0 : Int32)), (.ref b11)])) _
    refine XS.lloadN X14.here hx rfl (hb hby own_d_prog_25_method_2_code_139) rfl ?_
    show Steps p.tables e below (T14.setTop (mkF m 140 #[.val (.ref a), .val (.long x), .second, .val (.int (0 : Int32)), .val (.int (0 : Int32))] [(.long x), (.int (0 : Int32)), (.ref b11)])) _
    refine st17 _ ?_
    show Steps p.tables e below (T17.setTop (mkF m 141 #[.val (.ref a), .val (.long x), .second, .val (.int (0 : Int32)), .val (.int (0 : Int32))] [])) _
    refine XS.aloadN X17.here hx rfl (hb hby own_d_prog_25_method_2_code_141) rfl rfl ?_
    show Steps p.tables e below (T17.setTop (mkF m 142 #[.val (.ref a), .val (.long x), .second, .val (.int (0 : Int32)), .val (.int (0 : Int32))] [(.ref a)])) _
    refine XS.dup X17.here hx rfl (hb hby own_d_prog_25_method_2_code_142) rfl rfl ?_
    show Steps p.tables e below (T17.setTop (mkF m 143 #[.val (.ref a), .val (.long x), .second, .val (.int (0 : Int32)), .val (.int (0 : Int32))] [(.ref a), (.ref a)])) _
    refine st18 _ ?_
    show Steps p.tables e below (T18.setTop (mkF m 146 #[.val (.ref a), .val (.long x), .second, .val (.int (0 : Int32)), .val (.int (0 : Int32))] [(.int (0 : Int32)), (.ref a)])) _
    refine XS.dupX1 X18.here hx rfl (hb hby own_d_prog_25_method_2_code_146) rfl rfl rfl ?_
    show Steps p.tables e below (T18.setTop (mkF m 147 #[.val (.ref a), .val (.long x), .second, .val (.int (0 : Int32)), .val (.int (0 : Int32))] [(.int (0 : Int32)), (.ref a), (.int (0 : Int32))])) _
    refine XS.iconst X18.here hx rfl (hb hby own_d_prog_25_method_2_code_147) ?_
    show Steps p.tables e below (T18.setTop (mkF m 148 #[.val (.ref a), .val (.long x), .second, .val (.int (0 : Int32)), .val (.int (0 : Int32))] [(.int (1 : Int32)), (.int (0 : Int32)), (.ref a), (.int (0 : Int32))])) _
    refine XS.iadd X18.here hx rfl (hb hby own_d_prog_25_method_2_code_148) rfl ?_
    show Steps p.tables e below (T18.setTop (mkF m 149 #[.val (.ref a), .val (.long x), .second, .val (.int (0 : Int32)), .val (.int (0 : Int32))] [(.int ((0 : Int32) + (1 : Int32))), (.ref a), (.int (0 : Int32))])) _
    rw [fold19]
    show Steps p.tables e below (T18.setTop (mkF m 149 #[.val (.ref a), .val (.long x), .second, .val (.int (0 : Int32)), .val (.int (0 : Int32))] [(.int (1 : Int32)), (.ref a), (.int (0 : Int32))])) _
    refine st20 _ ?_
    exact k)
  obtain ⟨fs, hr, hrun, hended, hW, hsame⟩ := X20.leave (v := some (.int (0 : Int32))) (fun h => by rw [Bd.returns] at h; cases h)
  refine ⟨_, _, pre21 _ ?_, hrun, hended, _, _, rfl, ?_, ⟨_, rfl⟩, hW, hsame.mono (by decide) (by decide)⟩
  · show Steps p.tables e below (T20.setTop (mkF m 152 #[.val (.ref a), .val (.long x), .second, .val (.int (0 : Int32)), .val (.int (0 : Int32))] [(.int (0 : Int32))])) _
    exact retI X20 hx Bd.returns (hb hby own_d_prog_25_method_2_code_152) hr
  · show QA Z a bl kb x h0 n0 _ T20.heap _
    rw [e20]
    exact ⟨rfl, N20, K20, b11, _, sz_b11, F20_0, F20_1, V20_0, V20_1⟩
def QB1 (Z : State) (a bl ch : Addr) (kb kc : ClassId) (x0 x : Int64) (h0 : Heap) (n0 : Nat) (v : Option Value) (h : Heap) (L : List Loc) : Prop := v = some (.int (1 : Int32)) ∧ Fr n0 L ∧ Keep h0 h [a, ch] ∧ Fld Z h a "com/example/sameshape/sameshape/diff/LongColumn" "blocks" "[[J" (.ref bl) ∧ Fld Z h a "com/example/sameshape/sameshape/diff/LongColumn" "size" "I" (.int (2 : Int32)) ∧ Arv Z h ch kc .long (128 : Int32) [(.long x0), (.long x), (.long (0 : Int64))] (.long (0 : Int64))
theorem own_ef_rmB1 (m : MethodId) (y0 : Addr) (y1 : Int64) : entryFrame m #[(.ref y0), (.long y1)] 5 = mkF m 0 #[.val (.ref y0), .val (.long y1), .second, .unset, .unset] [] := by first | (simp [entryFrame, mkF, argsToLocals, Value.category]; done) | rfl
set_option maxRecDepth 65536 in
set_option maxHeartbeats 40000000 in
theorem rmB1 (l : Launch) (Z : State) (a0 : Array Value) (hw : ∀ d ∈ tables_1, d.before a0 Z = true) (ws : List Jvm.Cond) (a : Addr) (x : Int64) (bl ch : Addr) (kb kc : ClassId) (x0 : Int64) (h0 : Heap) (n0 : Nat) (Z0 : n0 ≤ h0.size) (E_a : Exa Z h0 a "com/example/sameshape/sameshape/diff/LongColumn") (g_a : n0 ≤ a) (F1 : Fld Z h0 a "com/example/sameshape/sameshape/diff/LongColumn" "blocks" "[[J" (.ref bl)) (g_bl : n0 ≤ bl) (O : own_Ovr Z kb "[J") (ne_a_bl : a ≠ bl) (g_ch : n0 ≤ ch) (ne_a_ch : a ≠ ch) (ne_bl_ch : bl ≠ ch) (F2 : Fld Z h0 a "com/example/sameshape/sameshape/diff/LongColumn" "size" "I" (.int (1 : Int32))) (A1 : Arv Z h0 bl kb (.array .long) (1 : Int32) [(.ref ch)] .null) (A2 : Arv Z h0 ch kc .long (128 : Int32) [(.long x0), (.long (0 : Int64)), (.long (0 : Int64))] (.long (0 : Int64))) :
    MetFree l (⟨"com/example/sameshape/sameshape/diff/LongColumn", "add", "(J)I"⟩ : MethodName) (head1 (Jvm.Cond.code (⟨"com/example/sameshape/sameshape/diff/LongColumn", "add", "(J)I"⟩ : MethodName) prog_25_method_2_code 5 (some .int) :: ws) ({ frames := 0, cells := 0, slots := 0, locals := 0 } : Room)) (fun ar_ U => ar_ = #[(.ref a), (.long x)] ∧ Z.Warmed39 U.vm ∧ U.heap = h0) (fun _ _ _ _ _ => True) (fun _ U o U' => ∃ v L, o = .returned v ∧ QB1 Z a bl ch kb kc x0 x h0 n0 v U'.heap L ∧ FrameEnd U o U' L ({ frames := 0, cells := 0, slots := 0, locals := 0 } : Room).cells ({ frames := 0, cells := 0, slots := 0, locals := 0 } : Room).slots) := by
  refine MetFree.of_bodySF (plainFor_of_name own_pn0) hisR ?_
  intro p e s m args below meth c s₁ Bd hml0 hP hK
  obtain ⟨rfl, hZ, hh⟩ := hP
  have hx := Bd.exec
  have hby := Bd.bytes
  have hml : c.maxLocals = 5 := hml0
  have hown : s.vm.findClass "com/example/sameshape/sameshape/diff/LongColumn" = some m.cls := findClass_of_methodNamed Bd.named
  have hnm := (name_of_methodNamed Bd.named Bd.method).1
  have X0 : Stand p l e ({ frames := 0, cells := 0, slots := 0, locals := 0 } : Room) s m #[(.ref a), (.long x)] below meth c s₁ [] 0 0 := Stand.of_body Bd
  have e0 : s₁.heap = h0 := by rw [← hh, Bd.state]; rfl
  have N0 := Fr.nil n0
  have pre0 : ∀ t, Steps p.tables e below (s₁.setTop (mkF m 0 #[.val (.ref a), .val (.long x), .second, .unset, .unset] [])) t → Steps p.tables e below (s₁.setTop (entryFrame m #[(.ref a), (.long x)] 5)) t := fun t k => castTop (own_ef_rmB1 m a x) k
  obtain ⟨T1, X1, e1, st1⟩ := getF X0 hx hZ hown (host := "") (Or.inl (hw _ (List.mem_of_getElem? (i := 18) rfl))) Via.refl e0 F2 (g := (mkF m 1 #[.val (.ref a), .val (.long x), .second, .unset, .unset] [(.ref a)])) rfl rfl (hb hby own_d_prog_25_method_2_code_1)
  obtain ⟨T2, X2, e2, st2⟩ := getF X1 hx hZ hown (host := "") (Or.inl (hw _ (List.mem_of_getElem? (i := 18) rfl))) Via.refl e1 F2 (g := (mkF m 20 #[.val (.ref a), .val (.long x), .second, .unset, .unset] [(.ref a)])) rfl rfl (hb hby own_d_prog_25_method_2_code_20)
  have fold3 : (((1 : Int32).toUInt32 >>> ((13 : Int32) &&& 31).toUInt32).toInt32) = (0 : Int32) := by decide +kernel
  obtain ⟨T4, X4, e4, st4⟩ := getF X2 hx hZ hown (host := "") (Or.inl (hw _ (List.mem_of_getElem? (i := 18) rfl))) Via.refl e2 F2 (g := (mkF m 28 #[.val (.ref a), .val (.long x), .second, .val (.int (0 : Int32)), .unset] [(.ref a)])) rfl rfl (hb hby own_d_prog_25_method_2_code_28)
  have fold5 : ((1 : Int32) &&& (8191 : Int32)) = (1 : Int32) := by decide +kernel
  obtain ⟨T6, X6, e6, st6⟩ := getF X4 hx hZ hown (host := "") (Or.inl (hw _ (List.mem_of_getElem? (i := 11) rfl))) Via.refl e4 F1 (g := (mkF m 39 #[.val (.ref a), .val (.long x), .second, .val (.int (0 : Int32)), .val (.int (1 : Int32))] [(.ref a), (.int (0 : Int32))])) rfl rfl (hb hby own_d_prog_25_method_2_code_39)
  obtain ⟨cl7, Ar7, q7, S7, M7, H7, G7⟩ := id A1
  obtain ⟨T8, X8, e8, st8⟩ := getF X6 hx hZ hown (host := "") (Or.inl (hw _ (List.mem_of_getElem? (i := 11) rfl))) Via.refl e6 F1 (g := (mkF m 68 #[.val (.ref a), .val (.long x), .second, .val (.int (0 : Int32)), .val (.int (1 : Int32))] [(.ref a)])) rfl rfl (hb hby own_d_prog_25_method_2_code_68)
  obtain ⟨cl9, Ar9, q9, S9, M9, H9, G9⟩ := id A1
  have hin9 : ¬ ((0 : Int32) < 0 ∨ cl9.slots.size ≤ ((0 : Int32)).toNatClampNeg) := inb_of S9 ⟨by decide, by decide⟩
  have hat9 : cl9.slots[((0 : Int32)).toNatClampNeg]? = some (.ref ch) := Has.at H9 hin9 rfl
  obtain ⟨T10, X10, e10, st10⟩ := getF X8 hx hZ hown (host := "") (Or.inl (hw _ (List.mem_of_getElem? (i := 11) rfl))) Via.refl e8 F1 (g := (mkF m 103 #[.val (.ref a), .val (.long x), .second, .val (.int (0 : Int32)), .val (.int (1 : Int32))] [(.ref a), (.int (1 : Int32))])) rfl rfl (hb hby own_d_prog_25_method_2_code_103)
  obtain ⟨cl11, Ar11, q11, S11, M11, H11, G11⟩ := id A1
  have hin11 : ¬ ((0 : Int32) < 0 ∨ cl11.slots.size ≤ ((0 : Int32)).toNatClampNeg) := inb_of S11 ⟨by decide, by decide⟩
  have hat11 : cl11.slots[((0 : Int32)).toNatClampNeg]? = some (.ref ch) := Has.at H11 hin11 rfl
  obtain ⟨cl12, Ar12, q12, S12, M12, H12, G12⟩ := id A2
  obtain ⟨T13, X13, e13, st13⟩ := getF X10 hx hZ hown (host := "") (Or.inl (hw _ (List.mem_of_getElem? (i := 11) rfl))) Via.refl e10 F1 (g := (mkF m 132 #[.val (.ref a), .val (.long x), .second, .val (.int (0 : Int32)), .val (.int (1 : Int32))] [(.ref a)])) rfl rfl (hb hby own_d_prog_25_method_2_code_132)
  obtain ⟨cl14, Ar14, q14, S14, M14, H14, G14⟩ := id A1
  have hin14 : ¬ ((0 : Int32) < 0 ∨ cl14.slots.size ≤ ((0 : Int32)).toNatClampNeg) := inb_of S14 ⟨by decide, by decide⟩
  have hat14 : cl14.slots[((0 : Int32)).toNatClampNeg]? = some (.ref ch) := Has.at H14 hin14 rfl
  obtain ⟨cl15, Ar15, q15, S15, M15, H15, G15⟩ := id A2
  have hin15 : ¬ ((1 : Int32) < 0 ∨ cl15.slots.size ≤ ((1 : Int32)).toNatClampNeg) := inb_of S15 ⟨by decide, by decide⟩
  obtain ⟨T16, h16, X16, e16, W16, st16⟩ := stJ X13 hx hZ e13 Ar15 (j := (1 : Int32)) hin15 (g := (mkF m 140 #[.val (.ref a), .val (.long x), .second, .val (.int (0 : Int32)), .val (.int (1 : Int32))] [(.long x), (.int (1 : Int32)), (.ref ch)])) rfl rfl (hb hby own_d_prog_25_method_2_code_140)
  have V_ch_16 : Arv Z h16 ch kc .long (128 : Int32) [(.long x0), (.long x), (.long (0 : Int64))] (.long (0 : Int64)) := Arv.set Ar15 q15 S15 M15 H15 G15 rfl W16 1 rfl (Nat.le_of_ble_eq_true rfl)
  have F16_0 := F1.other W16 (Or.inl ne_a_ch)
  have F16_1 := F2.other W16 (Or.inl ne_a_ch)
  have X16_0 := E_a.wr W16
  have V16_0 := A1.other W16 ne_bl_ch
  have z16 : n0 ≤ h16.size := by rw [W16.size]; exact Z0
  have K16 : Keep h0 h16 [a, ch] := (Keep.refl h0 [a, ch]).wr W16 (Or.inl (by simp))
  have N16 := Fr.snoc X16 N0 g_ch
  obtain ⟨T17, X17, e17, st17⟩ := getF X16 hx hZ hown (host := "") (Or.inl (hw _ (List.mem_of_getElem? (i := 18) rfl))) Via.refl e16 F16_1 (g := (mkF m 143 #[.val (.ref a), .val (.long x), .second, .val (.int (0 : Int32)), .val (.int (1 : Int32))] [(.ref a), (.ref a)])) rfl rfl (hb hby own_d_prog_25_method_2_code_143)
  have fold18 : ((1 : Int32) + (1 : Int32)) = (2 : Int32) := by decide +kernel
  obtain ⟨T19, h19, X19, e19, W19, st19⟩ := putF X17 hx hZ hown (host := "") (Or.inl (hw _ (List.mem_of_getElem? (i := 18) rfl))) Via.refl e17 F16_1 X16_0 (Or.inl (hw _ (List.mem_of_getElem? (i := 19) rfl))) (hw _ (List.mem_of_getElem? (i := 1) rfl)) (ty := .int) (by decide) rfl rfl (g := (mkF m 149 #[.val (.ref a), .val (.long x), .second, .val (.int (0 : Int32)), .val (.int (1 : Int32))] [(.int (2 : Int32)), (.ref a), (.int (1 : Int32))])) rfl rfl (hb hby own_d_prog_25_method_2_code_149)
  have F19_0 := F16_0.other W19 (Or.inr (slot_ne (Or.inl (hw _ (List.mem_of_getElem? (i := 12) rfl))) (Or.inl (hw _ (List.mem_of_getElem? (i := 19) rfl))) (by decide) (t := (.array (.array .long))) (t' := .int) (by decide) (by decide)))
  have F19_1 := F16_1.same W19
  have X19_0 := X16_0.wr W19
  have V19_0 := V16_0.other W19 (Ne.symm ne_a_bl)
  have V19_1 := V_ch_16.other W19 (Ne.symm ne_a_ch)
  have z19 : n0 ≤ h19.size := by rw [W19.size]; exact z16
  have K19 : Keep h0 h19 [a, ch] := K16.wr W19 (Or.inl (by simp))
  have N19 := Fr.snoc X19 N16 g_a
  have pre20 : ∀ t, Steps p.tables e below (T19.setTop (mkF m 152 #[.val (.ref a), .val (.long x), .second, .val (.int (0 : Int32)), .val (.int (1 : Int32))] [(.int (1 : Int32))])) t → Steps p.tables e below (s₁.setTop (entryFrame m #[(.ref a), (.long x)] 5)) t := fun t k => pre0 t (by
    show Steps p.tables e below (s₁.setTop (mkF m 0 #[.val (.ref a), .val (.long x), .second, .unset, .unset] [])) _
    refine XS.aloadN X0.here hx rfl (hb hby own_d_prog_25_method_2_code_0) rfl rfl ?_
    show Steps p.tables e below (s₁.setTop (mkF m 1 #[.val (.ref a), .val (.long x), .second, .unset, .unset] [(.ref a)])) _
    refine st1 _ ?_
    show Steps p.tables e below (T1.setTop (mkF m 4 #[.val (.ref a), .val (.long x), .second, .unset, .unset] [(.int (1 : Int32))])) _
    refine X1.ldcInt hx hown (mvT hZ (hw _ (List.mem_of_getElem? (i := 20) rfl))) (g := (mkF m 4 #[.val (.ref a), .val (.long x), .second, .unset, .unset] [(.int (1 : Int32))])) rfl (hb hby own_d_prog_25_method_2_code_4) _ ?_
    show Steps p.tables e below (T1.setTop (mkF m 6 #[.val (.ref a), .val (.long x), .second, .unset, .unset] [(.int (2147483647 : Int32)), (.int (1 : Int32))])) _
    refine XS.icmpYes X1.here hx rfl (pc0 := 6) (pc' := 19) rfl (hb hby own_d_prog_25_method_2_code_6) rfl (feq ((by decide) : ¬ ((1 : Int32) = (2147483647 : Int32)))).2 (by decide) (by decide) ?_
    show Steps p.tables e below (T1.setTop (mkF m 19 #[.val (.ref a), .val (.long x), .second, .unset, .unset] [])) _
    refine XS.aloadN X1.here hx rfl (hb hby own_d_prog_25_method_2_code_19) rfl rfl ?_
    show Steps p.tables e below (T1.setTop (mkF m 20 #[.val (.ref a), .val (.long x), .second, .unset, .unset] [(.ref a)])) _
    refine st2 _ ?_
    show Steps p.tables e below (T2.setTop (mkF m 23 #[.val (.ref a), .val (.long x), .second, .unset, .unset] [(.int (1 : Int32))])) _
    refine XS.bipush X2.here hx rfl (hb hby own_d_prog_25_method_2_code_23) ?_
    show Steps p.tables e below (T2.setTop (mkF m 25 #[.val (.ref a), .val (.long x), .second, .unset, .unset] [(.int (13 : Int32)), (.int (1 : Int32))])) _
    refine XS.iushr X2.here hx rfl (hb hby own_d_prog_25_method_2_code_25) rfl ?_
    show Steps p.tables e below (T2.setTop (mkF m 26 #[.val (.ref a), .val (.long x), .second, .unset, .unset] [(.int (((1 : Int32).toUInt32 >>> ((13 : Int32) &&& 31).toUInt32).toInt32))])) _
    rw [fold3]
    show Steps p.tables e below (T2.setTop (mkF m 26 #[.val (.ref a), .val (.long x), .second, .unset, .unset] [(.int (0 : Int32))])) _
    refine XS.istoreN X2.here hx rfl (hb hby own_d_prog_25_method_2_code_26) rfl (l' := #[.val (.ref a), .val (.long x), .second, .val (.int (0 : Int32)), .unset]) rfl ?_
    show Steps p.tables e below (T2.setTop (mkF m 27 #[.val (.ref a), .val (.long x), .second, .val (.int (0 : Int32)), .unset] [])) _
    refine XS.aloadN X2.here hx rfl (hb hby own_d_prog_25_method_2_code_27) rfl rfl ?_
    show Steps p.tables e below (T2.setTop (mkF m 28 #[.val (.ref a), .val (.long x), .second, .val (.int (0 : Int32)), .unset] [(.ref a)])) _
    refine st4 _ ?_
    show Steps p.tables e below (T4.setTop (mkF m 31 #[.val (.ref a), .val (.long x), .second, .val (.int (0 : Int32)), .unset] [(.int (1 : Int32))])) _
    refine XS.sipush X4.here hx rfl (hb hby own_d_prog_25_method_2_code_31) ?_
    show Steps p.tables e below (T4.setTop (mkF m 34 #[.val (.ref a), .val (.long x), .second, .val (.int (0 : Int32)), .unset] [(.int (8191 : Int32)), (.int (1 : Int32))])) _
    refine XS.iand X4.here hx rfl (hb hby own_d_prog_25_method_2_code_34) rfl ?_
    show Steps p.tables e below (T4.setTop (mkF m 35 #[.val (.ref a), .val (.long x), .second, .val (.int (0 : Int32)), .unset] [(.int ((1 : Int32) &&& (8191 : Int32)))])) _
    rw [fold5]
    show Steps p.tables e below (T4.setTop (mkF m 35 #[.val (.ref a), .val (.long x), .second, .val (.int (0 : Int32)), .unset] [(.int (1 : Int32))])) _
    refine XS.istore X4.here hx rfl (hb hby own_d_prog_25_method_2_code_35) rfl (l' := #[.val (.ref a), .val (.long x), .second, .val (.int (0 : Int32)), .val (.int (1 : Int32))]) rfl ?_
    show Steps p.tables e below (T4.setTop (mkF m 37 #[.val (.ref a), .val (.long x), .second, .val (.int (0 : Int32)), .val (.int (1 : Int32))] [])) _
    refine XS.iloadN X4.here hx rfl (hb hby own_d_prog_25_method_2_code_37) rfl ?_
    show Steps p.tables e below (T4.setTop (mkF m 38 #[.val (.ref a), .val (.long x), .second, .val (.int (0 : Int32)), .val (.int (1 : Int32))] [(.int (0 : Int32))])) _
    refine XS.aloadN X4.here hx rfl (hb hby own_d_prog_25_method_2_code_38) rfl rfl ?_
    show Steps p.tables e below (T4.setTop (mkF m 39 #[.val (.ref a), .val (.long x), .second, .val (.int (0 : Int32)), .val (.int (1 : Int32))] [(.ref a), (.int (0 : Int32))])) _
    refine st6 _ ?_
    show Steps p.tables e below (T6.setTop (mkF m 42 #[.val (.ref a), .val (.long x), .second, .val (.int (0 : Int32)), .val (.int (1 : Int32))] [(.ref bl), (.int (0 : Int32))])) _
    refine X6.arraylength hx (by rw [e6]; exact Ar7.1) (State.isArrayOf_alike hZ.alike Ar7.2.1) (g := (mkF m 42 #[.val (.ref a), .val (.long x), .second, .val (.int (0 : Int32)), .val (.int (1 : Int32))] [(.ref bl), (.int (0 : Int32))])) rfl rfl (hb hby own_d_prog_25_method_2_code_42) _ ?_
    rw [len_of S7 M7]
    show Steps p.tables e below (T6.setTop (mkF m 43 #[.val (.ref a), .val (.long x), .second, .val (.int (0 : Int32)), .val (.int (1 : Int32))] [(.int (1 : Int32)), (.int (0 : Int32))])) _
    refine XS.icmpYes X6.here hx rfl (pc0 := 43) (pc' := 67) rfl (hb hby own_d_prog_25_method_2_code_43) rfl (feq ((by decide) : ¬ ((0 : Int32) = (1 : Int32)))).2 (by decide) (by decide) ?_
    show Steps p.tables e below (T6.setTop (mkF m 67 #[.val (.ref a), .val (.long x), .second, .val (.int (0 : Int32)), .val (.int (1 : Int32))] [])) _
    refine XS.aloadN X6.here hx rfl (hb hby own_d_prog_25_method_2_code_67) rfl rfl ?_
    show Steps p.tables e below (T6.setTop (mkF m 68 #[.val (.ref a), .val (.long x), .second, .val (.int (0 : Int32)), .val (.int (1 : Int32))] [(.ref a)])) _
    refine st8 _ ?_
    show Steps p.tables e below (T8.setTop (mkF m 71 #[.val (.ref a), .val (.long x), .second, .val (.int (0 : Int32)), .val (.int (1 : Int32))] [(.ref bl)])) _
    refine XS.iloadN X8.here hx rfl (hb hby own_d_prog_25_method_2_code_71) rfl ?_
    show Steps p.tables e below (T8.setTop (mkF m 72 #[.val (.ref a), .val (.long x), .second, .val (.int (0 : Int32)), .val (.int (1 : Int32))] [(.int (0 : Int32)), (.ref bl)])) _
    refine X8.aaload hx (j := (0 : Int32)) (v := (.ref ch)) (by rw [e8]; exact Ar9.1) (State.isArrayOf_alike hZ.alike Ar9.2.1) rfl Ar9.2.2 hin9 hat9 (g := (mkF m 72 #[.val (.ref a), .val (.long x), .second, .val (.int (0 : Int32)), .val (.int (1 : Int32))] [(.int (0 : Int32)), (.ref bl)])) rfl rfl (hb hby own_d_prog_25_method_2_code_72) _ ?_
    show Steps p.tables e below (T8.setTop (mkF m 73 #[.val (.ref a), .val (.long x), .second, .val (.int (0 : Int32)), .val (.int (1 : Int32))] [(.ref ch)])) _
    refine XS.ifnonnullYes X8.here hx rfl (pc0 := 73) (pc' := 100) rfl (hb hby own_d_prog_25_method_2_code_73) rfl (by decide) (by decide) ?_
    show Steps p.tables e below (T8.setTop (mkF m 100 #[.val (.ref a), .val (.long x), .second, .val (.int (0 : Int32)), .val (.int (1 : Int32))] [])) _
    refine XS.iload X8.here hx rfl (hb hby own_d_prog_25_method_2_code_100) rfl ?_
    show Steps p.tables e below (T8.setTop (mkF m 102 #[.val (.ref a), .val (.long x), .second, .val (.int (0 : Int32)), .val (.int (1 : Int32))] [(.int (1 : Int32))])) _
    refine XS.aloadN X8.here hx rfl (hb hby own_d_prog_25_method_2_code_102) rfl rfl ?_
    show Steps p.tables e below (T8.setTop (mkF m 103 #[.val (.ref a), .val (.long x), .second, .val (.int (0 : Int32)), .val (.int (1 : Int32))] [(.ref a), (.int (1 : Int32))])) _
    refine st10 _ ?_
    show Steps p.tables e below (T10.setTop (mkF m 106 #[.val (.ref a), .val (.long x), .second, .val (.int (0 : Int32)), .val (.int (1 : Int32))] [(.ref bl), (.int (1 : Int32))])) _
    refine XS.iloadN X10.here hx rfl (hb hby own_d_prog_25_method_2_code_106) rfl ?_
    show Steps p.tables e below (T10.setTop (mkF m 107 #[.val (.ref a), .val (.long x), .second, .val (.int (0 : Int32)), .val (.int (1 : Int32))] [(.int (0 : Int32)), (.ref bl), (.int (1 : Int32))])) _
    refine X10.aaload hx (j := (0 : Int32)) (v := (.ref ch)) (by rw [e10]; exact Ar11.1) (State.isArrayOf_alike hZ.alike Ar11.2.1) rfl Ar11.2.2 hin11 hat11 (g := (mkF m 107 #[.val (.ref a), .val (.long x), .second, .val (.int (0 : Int32)), .val (.int (1 : Int32))] [(.int (0 : Int32)), (.ref bl), (.int (1 : Int32))])) rfl rfl (hb hby own_d_prog_25_method_2_code_107) _ ?_
    show Steps p.tables e below (T10.setTop (mkF m 108 #[.val (.ref a), .val (.long x), .second, .val (.int (0 : Int32)), .val (.int (1 : Int32))] [(.ref ch), (.int (1 : Int32))])) _
    refine X10.arraylength hx (by rw [e10]; exact Ar12.1) (State.isArrayOf_alike hZ.alike Ar12.2.1) (g := (mkF m 108 #[.val (.ref a), .val (.long x), .second, .val (.int (0 : Int32)), .val (.int (1 : Int32))] [(.ref ch), (.int (1 : Int32))])) rfl rfl (hb hby own_d_prog_25_method_2_code_108) _ ?_
    rw [len_of S12 M12]
    show Steps p.tables e below (T10.setTop (mkF m 109 #[.val (.ref a), .val (.long x), .second, .val (.int (0 : Int32)), .val (.int (1 : Int32))] [(.int (128 : Int32)), (.int (1 : Int32))])) _
    refine XS.icmpYes X10.here hx rfl (pc0 := 109) (pc' := 131) rfl (hb hby own_d_prog_25_method_2_code_109) rfl (feq ((by decide) : ¬ ((1 : Int32) = (128 : Int32)))).2 (by decide) (by decide) ?_
    show Steps p.tables e below (T10.setTop (mkF m 131 #[.val (.ref a), .val (.long x), .second, .val (.int (0 : Int32)), .val (.int (1 : Int32))] [])) _
    refine XS.aloadN X10.here hx rfl (hb hby own_d_prog_25_method_2_code_131) rfl rfl ?_
    show Steps p.tables e below (T10.setTop (mkF m 132 #[.val (.ref a), .val (.long x), .second, .val (.int (0 : Int32)), .val (.int (1 : Int32))] [(.ref a)])) _
    refine st13 _ ?_
    show Steps p.tables e below (T13.setTop (mkF m 135 #[.val (.ref a), .val (.long x), .second, .val (.int (0 : Int32)), .val (.int (1 : Int32))] [(.ref bl)])) _
    refine XS.iloadN X13.here hx rfl (hb hby own_d_prog_25_method_2_code_135) rfl ?_
    show Steps p.tables e below (T13.setTop (mkF m 136 #[.val (.ref a), .val (.long x), .second, .val (.int (0 : Int32)), .val (.int (1 : Int32))] [(.int (0 : Int32)), (.ref bl)])) _
    refine X13.aaload hx (j := (0 : Int32)) (v := (.ref ch)) (by rw [e13]; exact Ar14.1) (State.isArrayOf_alike hZ.alike Ar14.2.1) rfl Ar14.2.2 hin14 hat14 (g := (mkF m 136 #[.val (.ref a), .val (.long x), .second, .val (.int (0 : Int32)), .val (.int (1 : Int32))] [(.int (0 : Int32)), (.ref bl)])) rfl rfl (hb hby own_d_prog_25_method_2_code_136) _ ?_
    show Steps p.tables e below (T13.setTop (mkF m 137 #[.val (.ref a), .val (.long x), .second, .val (.int (0 : Int32)), .val (.int (1 : Int32))] [(.ref ch)])) _
    refine XS.iload X13.here hx rfl (hb hby own_d_prog_25_method_2_code_137) rfl ?_
    show Steps p.tables e below (T13.setTop (mkF m 139 #[.val (.ref a), .val (.long x), .second, .val (.int (0 : Int32)), .val (.int (1 : Int32))] [(.int (1 : Int32)), (.ref ch)])) _
    refine XS.lloadN X13.here hx rfl (hb hby own_d_prog_25_method_2_code_139) rfl ?_
    show Steps p.tables e below (T13.setTop (mkF m 140 #[.val (.ref a), .val (.long x), .second, .val (.int (0 : Int32)), .val (.int (1 : Int32))] [(.long x), (.int (1 : Int32)), (.ref ch)])) _
    refine st16 _ ?_
    show Steps p.tables e below (T16.setTop (mkF m 141 #[.val (.ref a), .val (.long x), .second, .val (.int (0 : Int32)), .val (.int (1 : Int32))] [])) _
    refine XS.aloadN X16.here hx rfl (hb hby own_d_prog_25_method_2_code_141) rfl rfl ?_
    show Steps p.tables e below (T16.setTop (mkF m 142 #[.val (.ref a), .val (.long x), .second, .val (.int (0 : Int32)), .val (.int (1 : Int32))] [(.ref a)])) _
    refine XS.dup X16.here hx rfl (hb hby own_d_prog_25_method_2_code_142) rfl rfl ?_
    show Steps p.tables e below (T16.setTop (mkF m 143 #[.val (.ref a), .val (.long x), .second, .val (.int (0 : Int32)), .val (.int (1 : Int32))] [(.ref a), (.ref a)])) _
    refine st17 _ ?_
    show Steps p.tables e below (T17.setTop (mkF m 146 #[.val (.ref a), .val (.long x), .second, .val (.int (0 : Int32)), .val (.int (1 : Int32))] [(.int (1 : Int32)), (.ref a)])) _
    refine XS.dupX1 X17.here hx rfl (hb hby own_d_prog_25_method_2_code_146) rfl rfl rfl ?_
    show Steps p.tables e below (T17.setTop (mkF m 147 #[.val (.ref a), .val (.long x), .second, .val (.int (0 : Int32)), .val (.int (1 : Int32))] [(.int (1 : Int32)), (.ref a), (.int (1 : Int32))])) _
    refine XS.iconst X17.here hx rfl (hb hby own_d_prog_25_method_2_code_147) ?_
    show Steps p.tables e below (T17.setTop (mkF m 148 #[.val (.ref a), .val (.long x), .second, .val (.int (0 : Int32)), .val (.int (1 : Int32))] [(.int (1 : Int32)), (.int (1 : Int32)), (.ref a), (.int (1 : Int32))])) _
    refine XS.iadd X17.here hx rfl (hb hby own_d_prog_25_method_2_code_148) rfl ?_
    show Steps p.tables e below (T17.setTop (mkF m 149 #[.val (.ref a), .val (.long x), .second, .val (.int (0 : Int32)), .val (.int (1 : Int32))] [(.int ((1 : Int32) + (1 : Int32))), (.ref a), (.int (1 : Int32))])) _
    rw [fold18]
    show Steps p.tables e below (T17.setTop (mkF m 149 #[.val (.ref a), .val (.long x), .second, .val (.int (0 : Int32)), .val (.int (1 : Int32))] [(.int (2 : Int32)), (.ref a), (.int (1 : Int32))])) _
    refine st19 _ ?_
    exact k)
  obtain ⟨fs, hr, hrun, hended, hW, hsame⟩ := X19.leave (v := some (.int (1 : Int32))) (fun h => by rw [Bd.returns] at h; cases h)
  refine ⟨_, _, pre20 _ ?_, hrun, hended, _, _, rfl, ?_, ⟨_, rfl⟩, hW, hsame.mono (by decide) (by decide)⟩
  · show Steps p.tables e below (T19.setTop (mkF m 152 #[.val (.ref a), .val (.long x), .second, .val (.int (0 : Int32)), .val (.int (1 : Int32))] [(.int (1 : Int32))])) _
    exact retI X19 hx Bd.returns (hb hby own_d_prog_25_method_2_code_152) hr
  · show QB1 Z a bl ch kb kc x0 x h0 n0 _ T19.heap _
    rw [e19]
    exact ⟨rfl, N19, K19, F19_0, F19_1, V19_1⟩
def QB2 (Z : State) (a bl ch : Addr) (kb kc : ClassId) (x0 x1 x : Int64) (h0 : Heap) (n0 : Nat) (v : Option Value) (h : Heap) (L : List Loc) : Prop := v = some (.int (2 : Int32)) ∧ Fr n0 L ∧ Keep h0 h [a, ch] ∧ Fld Z h a "com/example/sameshape/sameshape/diff/LongColumn" "blocks" "[[J" (.ref bl) ∧ Fld Z h a "com/example/sameshape/sameshape/diff/LongColumn" "size" "I" (.int (3 : Int32)) ∧ Arv Z h ch kc .long (128 : Int32) [(.long x0), (.long x1), (.long x)] (.long (0 : Int64))
theorem own_ef_rmB2 (m : MethodId) (y0 : Addr) (y1 : Int64) : entryFrame m #[(.ref y0), (.long y1)] 5 = mkF m 0 #[.val (.ref y0), .val (.long y1), .second, .unset, .unset] [] := by first | (simp [entryFrame, mkF, argsToLocals, Value.category]; done) | rfl
set_option maxRecDepth 65536 in
set_option maxHeartbeats 40000000 in
theorem rmB2 (l : Launch) (Z : State) (a0 : Array Value) (hw : ∀ d ∈ tables_1, d.before a0 Z = true) (ws : List Jvm.Cond) (a : Addr) (x : Int64) (bl ch : Addr) (kb kc : ClassId) (x0 x1 : Int64) (h0 : Heap) (n0 : Nat) (Z0 : n0 ≤ h0.size) (E_a : Exa Z h0 a "com/example/sameshape/sameshape/diff/LongColumn") (g_a : n0 ≤ a) (F1 : Fld Z h0 a "com/example/sameshape/sameshape/diff/LongColumn" "blocks" "[[J" (.ref bl)) (g_bl : n0 ≤ bl) (O : own_Ovr Z kb "[J") (ne_a_bl : a ≠ bl) (g_ch : n0 ≤ ch) (ne_a_ch : a ≠ ch) (ne_bl_ch : bl ≠ ch) (F2 : Fld Z h0 a "com/example/sameshape/sameshape/diff/LongColumn" "size" "I" (.int (2 : Int32))) (A1 : Arv Z h0 bl kb (.array .long) (1 : Int32) [(.ref ch)] .null) (A2 : Arv Z h0 ch kc .long (128 : Int32) [(.long x0), (.long x1), (.long (0 : Int64))] (.long (0 : Int64))) :
    MetFree l (⟨"com/example/sameshape/sameshape/diff/LongColumn", "add", "(J)I"⟩ : MethodName) (head1 (Jvm.Cond.code (⟨"com/example/sameshape/sameshape/diff/LongColumn", "add", "(J)I"⟩ : MethodName) prog_25_method_2_code 5 (some .int) :: ws) ({ frames := 0, cells := 0, slots := 0, locals := 0 } : Room)) (fun ar_ U => ar_ = #[(.ref a), (.long x)] ∧ Z.Warmed39 U.vm ∧ U.heap = h0) (fun _ _ _ _ _ => True) (fun _ U o U' => ∃ v L, o = .returned v ∧ QB2 Z a bl ch kb kc x0 x1 x h0 n0 v U'.heap L ∧ FrameEnd U o U' L ({ frames := 0, cells := 0, slots := 0, locals := 0 } : Room).cells ({ frames := 0, cells := 0, slots := 0, locals := 0 } : Room).slots) := by
  refine MetFree.of_bodySF (plainFor_of_name own_pn0) hisR ?_
  intro p e s m args below meth c s₁ Bd hml0 hP hK
  obtain ⟨rfl, hZ, hh⟩ := hP
  have hx := Bd.exec
  have hby := Bd.bytes
  have hml : c.maxLocals = 5 := hml0
  have hown : s.vm.findClass "com/example/sameshape/sameshape/diff/LongColumn" = some m.cls := findClass_of_methodNamed Bd.named
  have hnm := (name_of_methodNamed Bd.named Bd.method).1
  have X0 : Stand p l e ({ frames := 0, cells := 0, slots := 0, locals := 0 } : Room) s m #[(.ref a), (.long x)] below meth c s₁ [] 0 0 := Stand.of_body Bd
  have e0 : s₁.heap = h0 := by rw [← hh, Bd.state]; rfl
  have N0 := Fr.nil n0
  have pre0 : ∀ t, Steps p.tables e below (s₁.setTop (mkF m 0 #[.val (.ref a), .val (.long x), .second, .unset, .unset] [])) t → Steps p.tables e below (s₁.setTop (entryFrame m #[(.ref a), (.long x)] 5)) t := fun t k => castTop (own_ef_rmB2 m a x) k
  obtain ⟨T1, X1, e1, st1⟩ := getF X0 hx hZ hown (host := "") (Or.inl (hw _ (List.mem_of_getElem? (i := 18) rfl))) Via.refl e0 F2 (g := (mkF m 1 #[.val (.ref a), .val (.long x), .second, .unset, .unset] [(.ref a)])) rfl rfl (hb hby own_d_prog_25_method_2_code_1)
  obtain ⟨T2, X2, e2, st2⟩ := getF X1 hx hZ hown (host := "") (Or.inl (hw _ (List.mem_of_getElem? (i := 18) rfl))) Via.refl e1 F2 (g := (mkF m 20 #[.val (.ref a), .val (.long x), .second, .unset, .unset] [(.ref a)])) rfl rfl (hb hby own_d_prog_25_method_2_code_20)
  have fold3 : (((2 : Int32).toUInt32 >>> ((13 : Int32) &&& 31).toUInt32).toInt32) = (0 : Int32) := by decide +kernel
  obtain ⟨T4, X4, e4, st4⟩ := getF X2 hx hZ hown (host := "") (Or.inl (hw _ (List.mem_of_getElem? (i := 18) rfl))) Via.refl e2 F2 (g := (mkF m 28 #[.val (.ref a), .val (.long x), .second, .val (.int (0 : Int32)), .unset] [(.ref a)])) rfl rfl (hb hby own_d_prog_25_method_2_code_28)
  have fold5 : ((2 : Int32) &&& (8191 : Int32)) = (2 : Int32) := by decide +kernel
  obtain ⟨T6, X6, e6, st6⟩ := getF X4 hx hZ hown (host := "") (Or.inl (hw _ (List.mem_of_getElem? (i := 11) rfl))) Via.refl e4 F1 (g := (mkF m 39 #[.val (.ref a), .val (.long x), .second, .val (.int (0 : Int32)), .val (.int (2 : Int32))] [(.ref a), (.int (0 : Int32))])) rfl rfl (hb hby own_d_prog_25_method_2_code_39)
  obtain ⟨cl7, Ar7, q7, S7, M7, H7, G7⟩ := id A1
  obtain ⟨T8, X8, e8, st8⟩ := getF X6 hx hZ hown (host := "") (Or.inl (hw _ (List.mem_of_getElem? (i := 11) rfl))) Via.refl e6 F1 (g := (mkF m 68 #[.val (.ref a), .val (.long x), .second, .val (.int (0 : Int32)), .val (.int (2 : Int32))] [(.ref a)])) rfl rfl (hb hby own_d_prog_25_method_2_code_68)
  obtain ⟨cl9, Ar9, q9, S9, M9, H9, G9⟩ := id A1
  have hin9 : ¬ ((0 : Int32) < 0 ∨ cl9.slots.size ≤ ((0 : Int32)).toNatClampNeg) := inb_of S9 ⟨by decide, by decide⟩
  have hat9 : cl9.slots[((0 : Int32)).toNatClampNeg]? = some (.ref ch) := Has.at H9 hin9 rfl
  obtain ⟨T10, X10, e10, st10⟩ := getF X8 hx hZ hown (host := "") (Or.inl (hw _ (List.mem_of_getElem? (i := 11) rfl))) Via.refl e8 F1 (g := (mkF m 103 #[.val (.ref a), .val (.long x), .second, .val (.int (0 : Int32)), .val (.int (2 : Int32))] [(.ref a), (.int (2 : Int32))])) rfl rfl (hb hby own_d_prog_25_method_2_code_103)
  obtain ⟨cl11, Ar11, q11, S11, M11, H11, G11⟩ := id A1
  have hin11 : ¬ ((0 : Int32) < 0 ∨ cl11.slots.size ≤ ((0 : Int32)).toNatClampNeg) := inb_of S11 ⟨by decide, by decide⟩
  have hat11 : cl11.slots[((0 : Int32)).toNatClampNeg]? = some (.ref ch) := Has.at H11 hin11 rfl
  obtain ⟨cl12, Ar12, q12, S12, M12, H12, G12⟩ := id A2
  obtain ⟨T13, X13, e13, st13⟩ := getF X10 hx hZ hown (host := "") (Or.inl (hw _ (List.mem_of_getElem? (i := 11) rfl))) Via.refl e10 F1 (g := (mkF m 132 #[.val (.ref a), .val (.long x), .second, .val (.int (0 : Int32)), .val (.int (2 : Int32))] [(.ref a)])) rfl rfl (hb hby own_d_prog_25_method_2_code_132)
  obtain ⟨cl14, Ar14, q14, S14, M14, H14, G14⟩ := id A1
  have hin14 : ¬ ((0 : Int32) < 0 ∨ cl14.slots.size ≤ ((0 : Int32)).toNatClampNeg) := inb_of S14 ⟨by decide, by decide⟩
  have hat14 : cl14.slots[((0 : Int32)).toNatClampNeg]? = some (.ref ch) := Has.at H14 hin14 rfl
  obtain ⟨cl15, Ar15, q15, S15, M15, H15, G15⟩ := id A2
  have hin15 : ¬ ((2 : Int32) < 0 ∨ cl15.slots.size ≤ ((2 : Int32)).toNatClampNeg) := inb_of S15 ⟨by decide, by decide⟩
  obtain ⟨T16, h16, X16, e16, W16, st16⟩ := stJ X13 hx hZ e13 Ar15 (j := (2 : Int32)) hin15 (g := (mkF m 140 #[.val (.ref a), .val (.long x), .second, .val (.int (0 : Int32)), .val (.int (2 : Int32))] [(.long x), (.int (2 : Int32)), (.ref ch)])) rfl rfl (hb hby own_d_prog_25_method_2_code_140)
  have V_ch_16 : Arv Z h16 ch kc .long (128 : Int32) [(.long x0), (.long x1), (.long x)] (.long (0 : Int64)) := Arv.set Ar15 q15 S15 M15 H15 G15 rfl W16 2 rfl (Nat.le_of_ble_eq_true rfl)
  have F16_0 := F1.other W16 (Or.inl ne_a_ch)
  have F16_1 := F2.other W16 (Or.inl ne_a_ch)
  have X16_0 := E_a.wr W16
  have V16_0 := A1.other W16 ne_bl_ch
  have z16 : n0 ≤ h16.size := by rw [W16.size]; exact Z0
  have K16 : Keep h0 h16 [a, ch] := (Keep.refl h0 [a, ch]).wr W16 (Or.inl (by simp))
  have N16 := Fr.snoc X16 N0 g_ch
  obtain ⟨T17, X17, e17, st17⟩ := getF X16 hx hZ hown (host := "") (Or.inl (hw _ (List.mem_of_getElem? (i := 18) rfl))) Via.refl e16 F16_1 (g := (mkF m 143 #[.val (.ref a), .val (.long x), .second, .val (.int (0 : Int32)), .val (.int (2 : Int32))] [(.ref a), (.ref a)])) rfl rfl (hb hby own_d_prog_25_method_2_code_143)
  have fold18 : ((2 : Int32) + (1 : Int32)) = (3 : Int32) := by decide +kernel
  obtain ⟨T19, h19, X19, e19, W19, st19⟩ := putF X17 hx hZ hown (host := "") (Or.inl (hw _ (List.mem_of_getElem? (i := 18) rfl))) Via.refl e17 F16_1 X16_0 (Or.inl (hw _ (List.mem_of_getElem? (i := 19) rfl))) (hw _ (List.mem_of_getElem? (i := 1) rfl)) (ty := .int) (by decide) rfl rfl (g := (mkF m 149 #[.val (.ref a), .val (.long x), .second, .val (.int (0 : Int32)), .val (.int (2 : Int32))] [(.int (3 : Int32)), (.ref a), (.int (2 : Int32))])) rfl rfl (hb hby own_d_prog_25_method_2_code_149)
  have F19_0 := F16_0.other W19 (Or.inr (slot_ne (Or.inl (hw _ (List.mem_of_getElem? (i := 12) rfl))) (Or.inl (hw _ (List.mem_of_getElem? (i := 19) rfl))) (by decide) (t := (.array (.array .long))) (t' := .int) (by decide) (by decide)))
  have F19_1 := F16_1.same W19
  have X19_0 := X16_0.wr W19
  have V19_0 := V16_0.other W19 (Ne.symm ne_a_bl)
  have V19_1 := V_ch_16.other W19 (Ne.symm ne_a_ch)
  have z19 : n0 ≤ h19.size := by rw [W19.size]; exact z16
  have K19 : Keep h0 h19 [a, ch] := K16.wr W19 (Or.inl (by simp))
  have N19 := Fr.snoc X19 N16 g_a
  have pre20 : ∀ t, Steps p.tables e below (T19.setTop (mkF m 152 #[.val (.ref a), .val (.long x), .second, .val (.int (0 : Int32)), .val (.int (2 : Int32))] [(.int (2 : Int32))])) t → Steps p.tables e below (s₁.setTop (entryFrame m #[(.ref a), (.long x)] 5)) t := fun t k => pre0 t (by
    show Steps p.tables e below (s₁.setTop (mkF m 0 #[.val (.ref a), .val (.long x), .second, .unset, .unset] [])) _
    refine XS.aloadN X0.here hx rfl (hb hby own_d_prog_25_method_2_code_0) rfl rfl ?_
    show Steps p.tables e below (s₁.setTop (mkF m 1 #[.val (.ref a), .val (.long x), .second, .unset, .unset] [(.ref a)])) _
    refine st1 _ ?_
    show Steps p.tables e below (T1.setTop (mkF m 4 #[.val (.ref a), .val (.long x), .second, .unset, .unset] [(.int (2 : Int32))])) _
    refine X1.ldcInt hx hown (mvT hZ (hw _ (List.mem_of_getElem? (i := 20) rfl))) (g := (mkF m 4 #[.val (.ref a), .val (.long x), .second, .unset, .unset] [(.int (2 : Int32))])) rfl (hb hby own_d_prog_25_method_2_code_4) _ ?_
    show Steps p.tables e below (T1.setTop (mkF m 6 #[.val (.ref a), .val (.long x), .second, .unset, .unset] [(.int (2147483647 : Int32)), (.int (2 : Int32))])) _
    refine XS.icmpYes X1.here hx rfl (pc0 := 6) (pc' := 19) rfl (hb hby own_d_prog_25_method_2_code_6) rfl (feq ((by decide) : ¬ ((2 : Int32) = (2147483647 : Int32)))).2 (by decide) (by decide) ?_
    show Steps p.tables e below (T1.setTop (mkF m 19 #[.val (.ref a), .val (.long x), .second, .unset, .unset] [])) _
    refine XS.aloadN X1.here hx rfl (hb hby own_d_prog_25_method_2_code_19) rfl rfl ?_
    show Steps p.tables e below (T1.setTop (mkF m 20 #[.val (.ref a), .val (.long x), .second, .unset, .unset] [(.ref a)])) _
    refine st2 _ ?_
    show Steps p.tables e below (T2.setTop (mkF m 23 #[.val (.ref a), .val (.long x), .second, .unset, .unset] [(.int (2 : Int32))])) _
    refine XS.bipush X2.here hx rfl (hb hby own_d_prog_25_method_2_code_23) ?_
    show Steps p.tables e below (T2.setTop (mkF m 25 #[.val (.ref a), .val (.long x), .second, .unset, .unset] [(.int (13 : Int32)), (.int (2 : Int32))])) _
    refine XS.iushr X2.here hx rfl (hb hby own_d_prog_25_method_2_code_25) rfl ?_
    show Steps p.tables e below (T2.setTop (mkF m 26 #[.val (.ref a), .val (.long x), .second, .unset, .unset] [(.int (((2 : Int32).toUInt32 >>> ((13 : Int32) &&& 31).toUInt32).toInt32))])) _
    rw [fold3]
    show Steps p.tables e below (T2.setTop (mkF m 26 #[.val (.ref a), .val (.long x), .second, .unset, .unset] [(.int (0 : Int32))])) _
    refine XS.istoreN X2.here hx rfl (hb hby own_d_prog_25_method_2_code_26) rfl (l' := #[.val (.ref a), .val (.long x), .second, .val (.int (0 : Int32)), .unset]) rfl ?_
    show Steps p.tables e below (T2.setTop (mkF m 27 #[.val (.ref a), .val (.long x), .second, .val (.int (0 : Int32)), .unset] [])) _
    refine XS.aloadN X2.here hx rfl (hb hby own_d_prog_25_method_2_code_27) rfl rfl ?_
    show Steps p.tables e below (T2.setTop (mkF m 28 #[.val (.ref a), .val (.long x), .second, .val (.int (0 : Int32)), .unset] [(.ref a)])) _
    refine st4 _ ?_
    show Steps p.tables e below (T4.setTop (mkF m 31 #[.val (.ref a), .val (.long x), .second, .val (.int (0 : Int32)), .unset] [(.int (2 : Int32))])) _
    refine XS.sipush X4.here hx rfl (hb hby own_d_prog_25_method_2_code_31) ?_
    show Steps p.tables e below (T4.setTop (mkF m 34 #[.val (.ref a), .val (.long x), .second, .val (.int (0 : Int32)), .unset] [(.int (8191 : Int32)), (.int (2 : Int32))])) _
    refine XS.iand X4.here hx rfl (hb hby own_d_prog_25_method_2_code_34) rfl ?_
    show Steps p.tables e below (T4.setTop (mkF m 35 #[.val (.ref a), .val (.long x), .second, .val (.int (0 : Int32)), .unset] [(.int ((2 : Int32) &&& (8191 : Int32)))])) _
    rw [fold5]
    show Steps p.tables e below (T4.setTop (mkF m 35 #[.val (.ref a), .val (.long x), .second, .val (.int (0 : Int32)), .unset] [(.int (2 : Int32))])) _
    refine XS.istore X4.here hx rfl (hb hby own_d_prog_25_method_2_code_35) rfl (l' := #[.val (.ref a), .val (.long x), .second, .val (.int (0 : Int32)), .val (.int (2 : Int32))]) rfl ?_
    show Steps p.tables e below (T4.setTop (mkF m 37 #[.val (.ref a), .val (.long x), .second, .val (.int (0 : Int32)), .val (.int (2 : Int32))] [])) _
    refine XS.iloadN X4.here hx rfl (hb hby own_d_prog_25_method_2_code_37) rfl ?_
    show Steps p.tables e below (T4.setTop (mkF m 38 #[.val (.ref a), .val (.long x), .second, .val (.int (0 : Int32)), .val (.int (2 : Int32))] [(.int (0 : Int32))])) _
    refine XS.aloadN X4.here hx rfl (hb hby own_d_prog_25_method_2_code_38) rfl rfl ?_
    show Steps p.tables e below (T4.setTop (mkF m 39 #[.val (.ref a), .val (.long x), .second, .val (.int (0 : Int32)), .val (.int (2 : Int32))] [(.ref a), (.int (0 : Int32))])) _
    refine st6 _ ?_
    show Steps p.tables e below (T6.setTop (mkF m 42 #[.val (.ref a), .val (.long x), .second, .val (.int (0 : Int32)), .val (.int (2 : Int32))] [(.ref bl), (.int (0 : Int32))])) _
    refine X6.arraylength hx (by rw [e6]; exact Ar7.1) (State.isArrayOf_alike hZ.alike Ar7.2.1) (g := (mkF m 42 #[.val (.ref a), .val (.long x), .second, .val (.int (0 : Int32)), .val (.int (2 : Int32))] [(.ref bl), (.int (0 : Int32))])) rfl rfl (hb hby own_d_prog_25_method_2_code_42) _ ?_
    rw [len_of S7 M7]
    show Steps p.tables e below (T6.setTop (mkF m 43 #[.val (.ref a), .val (.long x), .second, .val (.int (0 : Int32)), .val (.int (2 : Int32))] [(.int (1 : Int32)), (.int (0 : Int32))])) _
    refine XS.icmpYes X6.here hx rfl (pc0 := 43) (pc' := 67) rfl (hb hby own_d_prog_25_method_2_code_43) rfl (feq ((by decide) : ¬ ((0 : Int32) = (1 : Int32)))).2 (by decide) (by decide) ?_
    show Steps p.tables e below (T6.setTop (mkF m 67 #[.val (.ref a), .val (.long x), .second, .val (.int (0 : Int32)), .val (.int (2 : Int32))] [])) _
    refine XS.aloadN X6.here hx rfl (hb hby own_d_prog_25_method_2_code_67) rfl rfl ?_
    show Steps p.tables e below (T6.setTop (mkF m 68 #[.val (.ref a), .val (.long x), .second, .val (.int (0 : Int32)), .val (.int (2 : Int32))] [(.ref a)])) _
    refine st8 _ ?_
    show Steps p.tables e below (T8.setTop (mkF m 71 #[.val (.ref a), .val (.long x), .second, .val (.int (0 : Int32)), .val (.int (2 : Int32))] [(.ref bl)])) _
    refine XS.iloadN X8.here hx rfl (hb hby own_d_prog_25_method_2_code_71) rfl ?_
    show Steps p.tables e below (T8.setTop (mkF m 72 #[.val (.ref a), .val (.long x), .second, .val (.int (0 : Int32)), .val (.int (2 : Int32))] [(.int (0 : Int32)), (.ref bl)])) _
    refine X8.aaload hx (j := (0 : Int32)) (v := (.ref ch)) (by rw [e8]; exact Ar9.1) (State.isArrayOf_alike hZ.alike Ar9.2.1) rfl Ar9.2.2 hin9 hat9 (g := (mkF m 72 #[.val (.ref a), .val (.long x), .second, .val (.int (0 : Int32)), .val (.int (2 : Int32))] [(.int (0 : Int32)), (.ref bl)])) rfl rfl (hb hby own_d_prog_25_method_2_code_72) _ ?_
    show Steps p.tables e below (T8.setTop (mkF m 73 #[.val (.ref a), .val (.long x), .second, .val (.int (0 : Int32)), .val (.int (2 : Int32))] [(.ref ch)])) _
    refine XS.ifnonnullYes X8.here hx rfl (pc0 := 73) (pc' := 100) rfl (hb hby own_d_prog_25_method_2_code_73) rfl (by decide) (by decide) ?_
    show Steps p.tables e below (T8.setTop (mkF m 100 #[.val (.ref a), .val (.long x), .second, .val (.int (0 : Int32)), .val (.int (2 : Int32))] [])) _
    refine XS.iload X8.here hx rfl (hb hby own_d_prog_25_method_2_code_100) rfl ?_
    show Steps p.tables e below (T8.setTop (mkF m 102 #[.val (.ref a), .val (.long x), .second, .val (.int (0 : Int32)), .val (.int (2 : Int32))] [(.int (2 : Int32))])) _
    refine XS.aloadN X8.here hx rfl (hb hby own_d_prog_25_method_2_code_102) rfl rfl ?_
    show Steps p.tables e below (T8.setTop (mkF m 103 #[.val (.ref a), .val (.long x), .second, .val (.int (0 : Int32)), .val (.int (2 : Int32))] [(.ref a), (.int (2 : Int32))])) _
    refine st10 _ ?_
    show Steps p.tables e below (T10.setTop (mkF m 106 #[.val (.ref a), .val (.long x), .second, .val (.int (0 : Int32)), .val (.int (2 : Int32))] [(.ref bl), (.int (2 : Int32))])) _
    refine XS.iloadN X10.here hx rfl (hb hby own_d_prog_25_method_2_code_106) rfl ?_
    show Steps p.tables e below (T10.setTop (mkF m 107 #[.val (.ref a), .val (.long x), .second, .val (.int (0 : Int32)), .val (.int (2 : Int32))] [(.int (0 : Int32)), (.ref bl), (.int (2 : Int32))])) _
    refine X10.aaload hx (j := (0 : Int32)) (v := (.ref ch)) (by rw [e10]; exact Ar11.1) (State.isArrayOf_alike hZ.alike Ar11.2.1) rfl Ar11.2.2 hin11 hat11 (g := (mkF m 107 #[.val (.ref a), .val (.long x), .second, .val (.int (0 : Int32)), .val (.int (2 : Int32))] [(.int (0 : Int32)), (.ref bl), (.int (2 : Int32))])) rfl rfl (hb hby own_d_prog_25_method_2_code_107) _ ?_
    show Steps p.tables e below (T10.setTop (mkF m 108 #[.val (.ref a), .val (.long x), .second, .val (.int (0 : Int32)), .val (.int (2 : Int32))] [(.ref ch), (.int (2 : Int32))])) _
    refine X10.arraylength hx (by rw [e10]; exact Ar12.1) (State.isArrayOf_alike hZ.alike Ar12.2.1) (g := (mkF m 108 #[.val (.ref a), .val (.long x), .second, .val (.int (0 : Int32)), .val (.int (2 : Int32))] [(.ref ch), (.int (2 : Int32))])) rfl rfl (hb hby own_d_prog_25_method_2_code_108) _ ?_
    rw [len_of S12 M12]
    show Steps p.tables e below (T10.setTop (mkF m 109 #[.val (.ref a), .val (.long x), .second, .val (.int (0 : Int32)), .val (.int (2 : Int32))] [(.int (128 : Int32)), (.int (2 : Int32))])) _
    refine XS.icmpYes X10.here hx rfl (pc0 := 109) (pc' := 131) rfl (hb hby own_d_prog_25_method_2_code_109) rfl (feq ((by decide) : ¬ ((2 : Int32) = (128 : Int32)))).2 (by decide) (by decide) ?_
    show Steps p.tables e below (T10.setTop (mkF m 131 #[.val (.ref a), .val (.long x), .second, .val (.int (0 : Int32)), .val (.int (2 : Int32))] [])) _
    refine XS.aloadN X10.here hx rfl (hb hby own_d_prog_25_method_2_code_131) rfl rfl ?_
    show Steps p.tables e below (T10.setTop (mkF m 132 #[.val (.ref a), .val (.long x), .second, .val (.int (0 : Int32)), .val (.int (2 : Int32))] [(.ref a)])) _
    refine st13 _ ?_
    show Steps p.tables e below (T13.setTop (mkF m 135 #[.val (.ref a), .val (.long x), .second, .val (.int (0 : Int32)), .val (.int (2 : Int32))] [(.ref bl)])) _
    refine XS.iloadN X13.here hx rfl (hb hby own_d_prog_25_method_2_code_135) rfl ?_
    show Steps p.tables e below (T13.setTop (mkF m 136 #[.val (.ref a), .val (.long x), .second, .val (.int (0 : Int32)), .val (.int (2 : Int32))] [(.int (0 : Int32)), (.ref bl)])) _
    refine X13.aaload hx (j := (0 : Int32)) (v := (.ref ch)) (by rw [e13]; exact Ar14.1) (State.isArrayOf_alike hZ.alike Ar14.2.1) rfl Ar14.2.2 hin14 hat14 (g := (mkF m 136 #[.val (.ref a), .val (.long x), .second, .val (.int (0 : Int32)), .val (.int (2 : Int32))] [(.int (0 : Int32)), (.ref bl)])) rfl rfl (hb hby own_d_prog_25_method_2_code_136) _ ?_
    show Steps p.tables e below (T13.setTop (mkF m 137 #[.val (.ref a), .val (.long x), .second, .val (.int (0 : Int32)), .val (.int (2 : Int32))] [(.ref ch)])) _
    refine XS.iload X13.here hx rfl (hb hby own_d_prog_25_method_2_code_137) rfl ?_
    show Steps p.tables e below (T13.setTop (mkF m 139 #[.val (.ref a), .val (.long x), .second, .val (.int (0 : Int32)), .val (.int (2 : Int32))] [(.int (2 : Int32)), (.ref ch)])) _
    refine XS.lloadN X13.here hx rfl (hb hby own_d_prog_25_method_2_code_139) rfl ?_
    show Steps p.tables e below (T13.setTop (mkF m 140 #[.val (.ref a), .val (.long x), .second, .val (.int (0 : Int32)), .val (.int (2 : Int32))] [(.long x), (.int (2 : Int32)), (.ref ch)])) _
    refine st16 _ ?_
    show Steps p.tables e below (T16.setTop (mkF m 141 #[.val (.ref a), .val (.long x), .second, .val (.int (0 : Int32)), .val (.int (2 : Int32))] [])) _
    refine XS.aloadN X16.here hx rfl (hb hby own_d_prog_25_method_2_code_141) rfl rfl ?_
    show Steps p.tables e below (T16.setTop (mkF m 142 #[.val (.ref a), .val (.long x), .second, .val (.int (0 : Int32)), .val (.int (2 : Int32))] [(.ref a)])) _
    refine XS.dup X16.here hx rfl (hb hby own_d_prog_25_method_2_code_142) rfl rfl ?_
    show Steps p.tables e below (T16.setTop (mkF m 143 #[.val (.ref a), .val (.long x), .second, .val (.int (0 : Int32)), .val (.int (2 : Int32))] [(.ref a), (.ref a)])) _
    refine st17 _ ?_
    show Steps p.tables e below (T17.setTop (mkF m 146 #[.val (.ref a), .val (.long x), .second, .val (.int (0 : Int32)), .val (.int (2 : Int32))] [(.int (2 : Int32)), (.ref a)])) _
    refine XS.dupX1 X17.here hx rfl (hb hby own_d_prog_25_method_2_code_146) rfl rfl rfl ?_
    show Steps p.tables e below (T17.setTop (mkF m 147 #[.val (.ref a), .val (.long x), .second, .val (.int (0 : Int32)), .val (.int (2 : Int32))] [(.int (2 : Int32)), (.ref a), (.int (2 : Int32))])) _
    refine XS.iconst X17.here hx rfl (hb hby own_d_prog_25_method_2_code_147) ?_
    show Steps p.tables e below (T17.setTop (mkF m 148 #[.val (.ref a), .val (.long x), .second, .val (.int (0 : Int32)), .val (.int (2 : Int32))] [(.int (1 : Int32)), (.int (2 : Int32)), (.ref a), (.int (2 : Int32))])) _
    refine XS.iadd X17.here hx rfl (hb hby own_d_prog_25_method_2_code_148) rfl ?_
    show Steps p.tables e below (T17.setTop (mkF m 149 #[.val (.ref a), .val (.long x), .second, .val (.int (0 : Int32)), .val (.int (2 : Int32))] [(.int ((2 : Int32) + (1 : Int32))), (.ref a), (.int (2 : Int32))])) _
    rw [fold18]
    show Steps p.tables e below (T17.setTop (mkF m 149 #[.val (.ref a), .val (.long x), .second, .val (.int (0 : Int32)), .val (.int (2 : Int32))] [(.int (3 : Int32)), (.ref a), (.int (2 : Int32))])) _
    refine st19 _ ?_
    exact k)
  obtain ⟨fs, hr, hrun, hended, hW, hsame⟩ := X19.leave (v := some (.int (2 : Int32))) (fun h => by rw [Bd.returns] at h; cases h)
  refine ⟨_, _, pre20 _ ?_, hrun, hended, _, _, rfl, ?_, ⟨_, rfl⟩, hW, hsame.mono (by decide) (by decide)⟩
  · show Steps p.tables e below (T19.setTop (mkF m 152 #[.val (.ref a), .val (.long x), .second, .val (.int (0 : Int32)), .val (.int (2 : Int32))] [(.int (2 : Int32))])) _
    exact retI X19 hx Bd.returns (hb hby own_d_prog_25_method_2_code_152) hr
  · show QB2 Z a bl ch kb kc x0 x1 x h0 n0 _ T19.heap _
    rw [e19]
    exact ⟨rfl, N19, K19, F19_0, F19_1, V19_1⟩
def QS0 (Z : State) (a bl ch : Addr) (kb kc : ClassId) (x0 x1 x2 x : Int64) (h0 : Heap) (n0 : Nat) (v : Option Value) (h : Heap) (L : List Loc) : Prop := v = none ∧ Fr n0 L ∧ Keep h0 h [ch] ∧ Arv Z h ch kc .long (128 : Int32) [(.long x), (.long x1), (.long x2)] (.long (0 : Int64))
theorem own_ef_rmS0 (m : MethodId) (y0 : Addr) (y1 : Int32) (y2 : Int64) : entryFrame m #[(.ref y0), (.int y1), (.long y2)] 4 = mkF m 0 #[.val (.ref y0), .val (.int y1), .val (.long y2), .second] [] := by first | (simp [entryFrame, mkF, argsToLocals, Value.category]; done) | rfl
set_option maxRecDepth 65536 in
set_option maxHeartbeats 40000000 in
theorem rmS0 (l : Launch) (Z : State) (a0 : Array Value) (hw : ∀ d ∈ tables_1, d.before a0 Z = true) (ws : List Jvm.Cond) (a : Addr) (x : Int64) (bl ch : Addr) (kb kc : ClassId) (x0 x1 x2 : Int64) (h0 : Heap) (n0 : Nat) (Z0 : n0 ≤ h0.size) (E_a : Exa Z h0 a "com/example/sameshape/sameshape/diff/LongColumn") (g_a : n0 ≤ a) (F1 : Fld Z h0 a "com/example/sameshape/sameshape/diff/LongColumn" "blocks" "[[J" (.ref bl)) (g_bl : n0 ≤ bl) (O : own_Ovr Z kb "[J") (ne_a_bl : a ≠ bl) (g_ch : n0 ≤ ch) (ne_a_ch : a ≠ ch) (ne_bl_ch : bl ≠ ch) (A1 : Arv Z h0 bl kb (.array .long) (1 : Int32) [(.ref ch)] .null) (A2 : Arv Z h0 ch kc .long (128 : Int32) [(.long x0), (.long x1), (.long x2)] (.long (0 : Int64))) :
    MetFree l (⟨"com/example/sameshape/sameshape/diff/LongColumn", "set", "(IJ)V"⟩ : MethodName) (head1 (Jvm.Cond.code (⟨"com/example/sameshape/sameshape/diff/LongColumn", "set", "(IJ)V"⟩ : MethodName) prog_25_method_4_code 4 none :: ws) ({ frames := 0, cells := 0, slots := 0, locals := 0 } : Room)) (fun ar_ U => ar_ = #[(.ref a), (.int (0 : Int32)), (.long x)] ∧ Z.Warmed39 U.vm ∧ U.heap = h0) (fun _ _ _ _ _ => True) (fun _ U o U' => ∃ v L, o = .returned v ∧ QS0 Z a bl ch kb kc x0 x1 x2 x h0 n0 v U'.heap L ∧ FrameEnd U o U' L ({ frames := 0, cells := 0, slots := 0, locals := 0 } : Room).cells ({ frames := 0, cells := 0, slots := 0, locals := 0 } : Room).slots) := by
  refine MetFree.of_bodySF (plainFor_of_name own_pn0) hisR ?_
  intro p e s m args below meth c s₁ Bd hml0 hP hK
  obtain ⟨rfl, hZ, hh⟩ := hP
  have hx := Bd.exec
  have hby := Bd.bytes
  have hml : c.maxLocals = 4 := hml0
  have hown : s.vm.findClass "com/example/sameshape/sameshape/diff/LongColumn" = some m.cls := findClass_of_methodNamed Bd.named
  have hnm := (name_of_methodNamed Bd.named Bd.method).1
  have X0 : Stand p l e ({ frames := 0, cells := 0, slots := 0, locals := 0 } : Room) s m #[(.ref a), (.int (0 : Int32)), (.long x)] below meth c s₁ [] 0 0 := Stand.of_body Bd
  have e0 : s₁.heap = h0 := by rw [← hh, Bd.state]; rfl
  have N0 := Fr.nil n0
  have pre0 : ∀ t, Steps p.tables e below (s₁.setTop (mkF m 0 #[.val (.ref a), .val (.int (0 : Int32)), .val (.long x), .second] [])) t → Steps p.tables e below (s₁.setTop (entryFrame m #[(.ref a), (.int (0 : Int32)), (.long x)] 4)) t := fun t k => castTop (own_ef_rmS0 m a (0 : Int32) x) k
  obtain ⟨T1, X1, e1, st1⟩ := getF X0 hx hZ hown (host := "") (Or.inl (hw _ (List.mem_of_getElem? (i := 11) rfl))) Via.refl e0 F1 (g := (mkF m 1 #[.val (.ref a), .val (.int (0 : Int32)), .val (.long x), .second] [(.ref a)])) rfl rfl (hb hby own_d_prog_25_method_4_code_1)
  have fold2 : (((0 : Int32).toUInt32 >>> ((13 : Int32) &&& 31).toUInt32).toInt32) = (0 : Int32) := by decide +kernel
  obtain ⟨cl3, Ar3, q3, S3, M3, H3, G3⟩ := id A1
  have hin3 : ¬ ((0 : Int32) < 0 ∨ cl3.slots.size ≤ ((0 : Int32)).toNatClampNeg) := inb_of S3 ⟨by decide, by decide⟩
  have hat3 : cl3.slots[((0 : Int32)).toNatClampNeg]? = some (.ref ch) := Has.at H3 hin3 rfl
  have fold4 : ((0 : Int32) &&& (8191 : Int32)) = (0 : Int32) := by decide +kernel
  obtain ⟨cl5, Ar5, q5, S5, M5, H5, G5⟩ := id A2
  have hin5 : ¬ ((0 : Int32) < 0 ∨ cl5.slots.size ≤ ((0 : Int32)).toNatClampNeg) := inb_of S5 ⟨by decide, by decide⟩
  obtain ⟨T6, h6, X6, e6, W6, st6⟩ := stJ X1 hx hZ e1 Ar5 (j := (0 : Int32)) hin5 (g := (mkF m 15 #[.val (.ref a), .val (.int (0 : Int32)), .val (.long x), .second] [(.long x), (.int (0 : Int32)), (.ref ch)])) rfl rfl (hb hby own_d_prog_25_method_4_code_15)
  have V_ch_6 : Arv Z h6 ch kc .long (128 : Int32) [(.long x), (.long x1), (.long x2)] (.long (0 : Int64)) := Arv.set Ar5 q5 S5 M5 H5 G5 rfl W6 0 rfl (Nat.le_of_ble_eq_true rfl)
  have F6_0 := F1.other W6 (Or.inl ne_a_ch)
  have X6_0 := E_a.wr W6
  have V6_0 := A1.other W6 ne_bl_ch
  have z6 : n0 ≤ h6.size := by rw [W6.size]; exact Z0
  have K6 : Keep h0 h6 [ch] := (Keep.refl h0 [ch]).wr W6 (Or.inl (by simp))
  have N6 := Fr.snoc X6 N0 g_ch
  have pre7 : ∀ t, Steps p.tables e below (T6.setTop (mkF m 16 #[.val (.ref a), .val (.int (0 : Int32)), .val (.long x), .second] [])) t → Steps p.tables e below (s₁.setTop (entryFrame m #[(.ref a), (.int (0 : Int32)), (.long x)] 4)) t := fun t k => pre0 t (by
    show Steps p.tables e below (s₁.setTop (mkF m 0 #[.val (.ref a), .val (.int (0 : Int32)), .val (.long x), .second] [])) _
    refine XS.aloadN X0.here hx rfl (hb hby own_d_prog_25_method_4_code_0) rfl rfl ?_
    show Steps p.tables e below (s₁.setTop (mkF m 1 #[.val (.ref a), .val (.int (0 : Int32)), .val (.long x), .second] [(.ref a)])) _
    refine st1 _ ?_
    show Steps p.tables e below (T1.setTop (mkF m 4 #[.val (.ref a), .val (.int (0 : Int32)), .val (.long x), .second] [(.ref bl)])) _
    refine XS.iloadN X1.here hx rfl (hb hby own_d_prog_25_method_4_code_4) rfl ?_
    show Steps p.tables e below (T1.setTop (mkF m 5 #[.val (.ref a), .val (.int (0 : Int32)), .val (.long x), .second] [(.int (0 : Int32)), (.ref bl)])) _
    refine XS.bipush X1.here hx rfl (hb hby own_d_prog_25_method_4_code_5) ?_
    show Steps p.tables e below (T1.setTop (mkF m 7 #[.val (.ref a), .val (.int (0 : Int32)), .val (.long x), .second] [(.int (13 : Int32)), (.int (0 : Int32)), (.ref bl)])) _
    refine XS.iushr X1.here hx rfl (hb hby own_d_prog_25_method_4_code_7) rfl ?_
    show Steps p.tables e below (T1.setTop (mkF m 8 #[.val (.ref a), .val (.int (0 : Int32)), .val (.long x), .second] [(.int (((0 : Int32).toUInt32 >>> ((13 : Int32) &&& 31).toUInt32).toInt32)), (.ref bl)])) _
    rw [fold2]
    show Steps p.tables e below (T1.setTop (mkF m 8 #[.val (.ref a), .val (.int (0 : Int32)), .val (.long x), .second] [(.int (0 : Int32)), (.ref bl)])) _
    refine X1.aaload hx (j := (0 : Int32)) (v := (.ref ch)) (by rw [e1]; exact Ar3.1) (State.isArrayOf_alike hZ.alike Ar3.2.1) rfl Ar3.2.2 hin3 hat3 (g := (mkF m 8 #[.val (.ref a), .val (.int (0 : Int32)), .val (.long x), .second] [(.int (0 : Int32)), (.ref bl)])) rfl rfl (hb hby own_d_prog_25_method_4_code_8) _ ?_
    show Steps p.tables e below (T1.setTop (mkF m 9 #[.val (.ref a), .val (.int (0 : Int32)), .val (.long x), .second] [(.ref ch)])) _
    refine XS.iloadN X1.here hx rfl (hb hby own_d_prog_25_method_4_code_9) rfl ?_
    show Steps p.tables e below (T1.setTop (mkF m 10 #[.val (.ref a), .val (.int (0 : Int32)), .val (.long x), .second] [(.int (0 : Int32)), (.ref ch)])) _
    refine XS.sipush X1.here hx rfl (hb hby own_d_prog_25_method_4_code_10) ?_
    show Steps p.tables e below (T1.setTop (mkF m 13 #[.val (.ref a), .val (.int (0 : Int32)), .val (.long x), .second] [(.int (8191 : Int32)), (.int (0 : Int32)), (.ref ch)])) _
    refine XS.iand X1.here hx rfl (hb hby own_d_prog_25_method_4_code_13) rfl ?_
    show Steps p.tables e below (T1.setTop (mkF m 14 #[.val (.ref a), .val (.int (0 : Int32)), .val (.long x), .second] [(.int ((0 : Int32) &&& (8191 : Int32))), (.ref ch)])) _
    rw [fold4]
    show Steps p.tables e below (T1.setTop (mkF m 14 #[.val (.ref a), .val (.int (0 : Int32)), .val (.long x), .second] [(.int (0 : Int32)), (.ref ch)])) _
    refine XS.lloadN X1.here hx rfl (hb hby own_d_prog_25_method_4_code_14) rfl ?_
    show Steps p.tables e below (T1.setTop (mkF m 15 #[.val (.ref a), .val (.int (0 : Int32)), .val (.long x), .second] [(.long x), (.int (0 : Int32)), (.ref ch)])) _
    refine st6 _ ?_
    exact k)
  obtain ⟨fs, hr, hrun, hended, hW, hsame⟩ := X6.leave (v := none) (fun _ => rfl)
  refine ⟨_, _, pre7 _ ?_, hrun, hended, _, _, rfl, ?_, ⟨_, rfl⟩, hW, hsame.mono (by decide) (by decide)⟩
  · show Steps p.tables e below (T6.setTop (mkF m 16 #[.val (.ref a), .val (.int (0 : Int32)), .val (.long x), .second] [])) _
    exact X6.returnOut hx Bd.returns (hb hby own_d_prog_25_method_4_code_16) hr
  · show QS0 Z a bl ch kb kc x0 x1 x2 x h0 n0 _ T6.heap _
    rw [e6]
    exact ⟨rfl, N6, K6, V_ch_6⟩
theorem own_ef_rmG0 (m : MethodId) (y0 : Addr) (y1 : Int32) : entryFrame m #[(.ref y0), (.int y1)] 2 = mkF m 0 #[.val (.ref y0), .val (.int y1)] [] := by first | (simp [entryFrame, mkF, argsToLocals, Value.category]; done) | rfl
set_option maxRecDepth 65536 in
set_option maxHeartbeats 40000000 in
theorem rmG0 (l : Launch) (Z : State) (a0 : Array Value) (hw : ∀ d ∈ tables_1, d.before a0 Z = true) (ws : List Jvm.Cond) (a : Addr) (bl ch : Addr) (kb kc : ClassId) (x0 x1 x2 : Int64) (h0 : Heap) (n0 : Nat) (Z0 : n0 ≤ h0.size) (E_a : Exa Z h0 a "com/example/sameshape/sameshape/diff/LongColumn") (g_a : n0 ≤ a) (F1 : Fld Z h0 a "com/example/sameshape/sameshape/diff/LongColumn" "blocks" "[[J" (.ref bl)) (g_bl : n0 ≤ bl) (O : own_Ovr Z kb "[J") (ne_a_bl : a ≠ bl) (g_ch : n0 ≤ ch) (ne_a_ch : a ≠ ch) (ne_bl_ch : bl ≠ ch) (A1 : Arv Z h0 bl kb (.array .long) (1 : Int32) [(.ref ch)] .null) (A2 : Arv Z h0 ch kc .long (128 : Int32) [(.long x0), (.long x1), (.long x2)] (.long (0 : Int64))) :
    MetFree l (⟨"com/example/sameshape/sameshape/diff/LongColumn", "get", "(I)J"⟩ : MethodName) (head1 (Jvm.Cond.code (⟨"com/example/sameshape/sameshape/diff/LongColumn", "get", "(I)J"⟩ : MethodName) prog_25_method_3_code 2 (some .long) :: ws) ({ frames := 0, cells := 0, slots := 0, locals := 0 } : Room)) (fun ar_ U => ar_ = #[(.ref a), (.int (0 : Int32))] ∧ Z.Warmed39 U.vm ∧ U.heap = h0) (fun _ _ _ _ _ => True) (fun _ U o U' => ∃ v L, o = .returned v ∧ QP (.long x0) h0 n0 v U'.heap L ∧ FrameEnd U o U' L ({ frames := 0, cells := 0, slots := 0, locals := 0 } : Room).cells ({ frames := 0, cells := 0, slots := 0, locals := 0 } : Room).slots) := by
  refine MetFree.of_bodySF (plainFor_of_name own_pn0) hisR ?_
  intro p e s m args below meth c s₁ Bd hml0 hP hK
  obtain ⟨rfl, hZ, hh⟩ := hP
  have hx := Bd.exec
  have hby := Bd.bytes
  have hml : c.maxLocals = 2 := hml0
  have hown : s.vm.findClass "com/example/sameshape/sameshape/diff/LongColumn" = some m.cls := findClass_of_methodNamed Bd.named
  have hnm := (name_of_methodNamed Bd.named Bd.method).1
  have X0 : Stand p l e ({ frames := 0, cells := 0, slots := 0, locals := 0 } : Room) s m #[(.ref a), (.int (0 : Int32))] below meth c s₁ [] 0 0 := Stand.of_body Bd
  have e0 : s₁.heap = h0 := by rw [← hh, Bd.state]; rfl
  have N0 := Fr.nil n0
  have pre0 : ∀ t, Steps p.tables e below (s₁.setTop (mkF m 0 #[.val (.ref a), .val (.int (0 : Int32))] [])) t → Steps p.tables e below (s₁.setTop (entryFrame m #[(.ref a), (.int (0 : Int32))] 2)) t := fun t k => castTop (own_ef_rmG0 m a (0 : Int32)) k
  obtain ⟨T1, X1, e1, st1⟩ := getF X0 hx hZ hown (host := "") (Or.inl (hw _ (List.mem_of_getElem? (i := 11) rfl))) Via.refl e0 F1 (g := (mkF m 1 #[.val (.ref a), .val (.int (0 : Int32))] [(.ref a)])) rfl rfl (hb hby own_d_prog_25_method_3_code_1)
  have fold2 : (((0 : Int32).toUInt32 >>> ((13 : Int32) &&& 31).toUInt32).toInt32) = (0 : Int32) := by decide +kernel
  obtain ⟨cl3, Ar3, q3, S3, M3, H3, G3⟩ := id A1
  have hin3 : ¬ ((0 : Int32) < 0 ∨ cl3.slots.size ≤ ((0 : Int32)).toNatClampNeg) := inb_of S3 ⟨by decide, by decide⟩
  have hat3 : cl3.slots[((0 : Int32)).toNatClampNeg]? = some (.ref ch) := Has.at H3 hin3 rfl
  have fold4 : ((0 : Int32) &&& (8191 : Int32)) = (0 : Int32) := by decide +kernel
  obtain ⟨cl5, Ar5, q5, S5, M5, H5, G5⟩ := id A2
  have hin5 : ¬ ((0 : Int32) < 0 ∨ cl5.slots.size ≤ ((0 : Int32)).toNatClampNeg) := inb_of S5 ⟨by decide, by decide⟩
  have hat5 : cl5.slots[((0 : Int32)).toNatClampNeg]? = some (.long x0) := Has.at H5 hin5 rfl
  have pre6 : ∀ t, Steps p.tables e below (T1.setTop (mkF m 15 #[.val (.ref a), .val (.int (0 : Int32))] [(.long x0)])) t → Steps p.tables e below (s₁.setTop (entryFrame m #[(.ref a), (.int (0 : Int32))] 2)) t := fun t k => pre0 t (by
    show Steps p.tables e below (s₁.setTop (mkF m 0 #[.val (.ref a), .val (.int (0 : Int32))] [])) _
    refine XS.aloadN X0.here hx rfl (hb hby own_d_prog_25_method_3_code_0) rfl rfl ?_
    show Steps p.tables e below (s₁.setTop (mkF m 1 #[.val (.ref a), .val (.int (0 : Int32))] [(.ref a)])) _
    refine st1 _ ?_
    show Steps p.tables e below (T1.setTop (mkF m 4 #[.val (.ref a), .val (.int (0 : Int32))] [(.ref bl)])) _
    refine XS.iloadN X1.here hx rfl (hb hby own_d_prog_25_method_3_code_4) rfl ?_
    show Steps p.tables e below (T1.setTop (mkF m 5 #[.val (.ref a), .val (.int (0 : Int32))] [(.int (0 : Int32)), (.ref bl)])) _
    refine XS.bipush X1.here hx rfl (hb hby own_d_prog_25_method_3_code_5) ?_
    show Steps p.tables e below (T1.setTop (mkF m 7 #[.val (.ref a), .val (.int (0 : Int32))] [(.int (13 : Int32)), (.int (0 : Int32)), (.ref bl)])) _
    refine XS.iushr X1.here hx rfl (hb hby own_d_prog_25_method_3_code_7) rfl ?_
    show Steps p.tables e below (T1.setTop (mkF m 8 #[.val (.ref a), .val (.int (0 : Int32))] [(.int (((0 : Int32).toUInt32 >>> ((13 : Int32) &&& 31).toUInt32).toInt32)), (.ref bl)])) _
    rw [fold2]
    show Steps p.tables e below (T1.setTop (mkF m 8 #[.val (.ref a), .val (.int (0 : Int32))] [(.int (0 : Int32)), (.ref bl)])) _
    refine X1.aaload hx (j := (0 : Int32)) (v := (.ref ch)) (by rw [e1]; exact Ar3.1) (State.isArrayOf_alike hZ.alike Ar3.2.1) rfl Ar3.2.2 hin3 hat3 (g := (mkF m 8 #[.val (.ref a), .val (.int (0 : Int32))] [(.int (0 : Int32)), (.ref bl)])) rfl rfl (hb hby own_d_prog_25_method_3_code_8) _ ?_
    show Steps p.tables e below (T1.setTop (mkF m 9 #[.val (.ref a), .val (.int (0 : Int32))] [(.ref ch)])) _
    refine XS.iloadN X1.here hx rfl (hb hby own_d_prog_25_method_3_code_9) rfl ?_
    show Steps p.tables e below (T1.setTop (mkF m 10 #[.val (.ref a), .val (.int (0 : Int32))] [(.int (0 : Int32)), (.ref ch)])) _
    refine XS.sipush X1.here hx rfl (hb hby own_d_prog_25_method_3_code_10) ?_
    show Steps p.tables e below (T1.setTop (mkF m 13 #[.val (.ref a), .val (.int (0 : Int32))] [(.int (8191 : Int32)), (.int (0 : Int32)), (.ref ch)])) _
    refine XS.iand X1.here hx rfl (hb hby own_d_prog_25_method_3_code_13) rfl ?_
    show Steps p.tables e below (T1.setTop (mkF m 14 #[.val (.ref a), .val (.int (0 : Int32))] [(.int ((0 : Int32) &&& (8191 : Int32))), (.ref ch)])) _
    rw [fold4]
    show Steps p.tables e below (T1.setTop (mkF m 14 #[.val (.ref a), .val (.int (0 : Int32))] [(.int (0 : Int32)), (.ref ch)])) _
    refine X1.laload hx (j := (0 : Int32)) (v := (.long x0)) (by rw [e1]; exact Ar5.1) (State.isArrayOf_alike hZ.alike Ar5.2.1) Ar5.2.2 hin5 hat5 (g := (mkF m 14 #[.val (.ref a), .val (.int (0 : Int32))] [(.int (0 : Int32)), (.ref ch)])) rfl rfl (hb hby own_d_prog_25_method_3_code_14) _ ?_
    exact k)
  obtain ⟨fs, hr, hrun, hended, hW, hsame⟩ := X1.leave (v := some (.long x0)) (fun h => by rw [Bd.returns] at h; cases h)
  refine ⟨_, _, pre6 _ ?_, hrun, hended, _, _, rfl, ?_, ⟨_, rfl⟩, hW, hsame.mono (by decide) (by decide)⟩
  · show Steps p.tables e below (T1.setTop (mkF m 15 #[.val (.ref a), .val (.int (0 : Int32))] [(.long x0)])) _
    exact retOut X1 hx (t := .long) (i := .lreturn) Bd.returns rfl (Or.inr (Or.inl ⟨rfl, rfl, _, rfl⟩)) (hb hby own_d_prog_25_method_3_code_15) hr
  · show QP (.long x0) h0 n0 _ T1.heap _
    rw [e1]
    exact ⟨rfl, N0, rfl⟩
def QS1 (Z : State) (a bl ch : Addr) (kb kc : ClassId) (x0 x1 x2 x : Int64) (h0 : Heap) (n0 : Nat) (v : Option Value) (h : Heap) (L : List Loc) : Prop := v = none ∧ Fr n0 L ∧ Keep h0 h [ch] ∧ Arv Z h ch kc .long (128 : Int32) [(.long x0), (.long x), (.long x2)] (.long (0 : Int64))
theorem own_ef_rmS1 (m : MethodId) (y0 : Addr) (y1 : Int32) (y2 : Int64) : entryFrame m #[(.ref y0), (.int y1), (.long y2)] 4 = mkF m 0 #[.val (.ref y0), .val (.int y1), .val (.long y2), .second] [] := by first | (simp [entryFrame, mkF, argsToLocals, Value.category]; done) | rfl
set_option maxRecDepth 65536 in
set_option maxHeartbeats 40000000 in
theorem rmS1 (l : Launch) (Z : State) (a0 : Array Value) (hw : ∀ d ∈ tables_1, d.before a0 Z = true) (ws : List Jvm.Cond) (a : Addr) (x : Int64) (bl ch : Addr) (kb kc : ClassId) (x0 x1 x2 : Int64) (h0 : Heap) (n0 : Nat) (Z0 : n0 ≤ h0.size) (E_a : Exa Z h0 a "com/example/sameshape/sameshape/diff/LongColumn") (g_a : n0 ≤ a) (F1 : Fld Z h0 a "com/example/sameshape/sameshape/diff/LongColumn" "blocks" "[[J" (.ref bl)) (g_bl : n0 ≤ bl) (O : own_Ovr Z kb "[J") (ne_a_bl : a ≠ bl) (g_ch : n0 ≤ ch) (ne_a_ch : a ≠ ch) (ne_bl_ch : bl ≠ ch) (A1 : Arv Z h0 bl kb (.array .long) (1 : Int32) [(.ref ch)] .null) (A2 : Arv Z h0 ch kc .long (128 : Int32) [(.long x0), (.long x1), (.long x2)] (.long (0 : Int64))) :
    MetFree l (⟨"com/example/sameshape/sameshape/diff/LongColumn", "set", "(IJ)V"⟩ : MethodName) (head1 (Jvm.Cond.code (⟨"com/example/sameshape/sameshape/diff/LongColumn", "set", "(IJ)V"⟩ : MethodName) prog_25_method_4_code 4 none :: ws) ({ frames := 0, cells := 0, slots := 0, locals := 0 } : Room)) (fun ar_ U => ar_ = #[(.ref a), (.int (1 : Int32)), (.long x)] ∧ Z.Warmed39 U.vm ∧ U.heap = h0) (fun _ _ _ _ _ => True) (fun _ U o U' => ∃ v L, o = .returned v ∧ QS1 Z a bl ch kb kc x0 x1 x2 x h0 n0 v U'.heap L ∧ FrameEnd U o U' L ({ frames := 0, cells := 0, slots := 0, locals := 0 } : Room).cells ({ frames := 0, cells := 0, slots := 0, locals := 0 } : Room).slots) := by
  refine MetFree.of_bodySF (plainFor_of_name own_pn0) hisR ?_
  intro p e s m args below meth c s₁ Bd hml0 hP hK
  obtain ⟨rfl, hZ, hh⟩ := hP
  have hx := Bd.exec
  have hby := Bd.bytes
  have hml : c.maxLocals = 4 := hml0
  have hown : s.vm.findClass "com/example/sameshape/sameshape/diff/LongColumn" = some m.cls := findClass_of_methodNamed Bd.named
  have hnm := (name_of_methodNamed Bd.named Bd.method).1
  have X0 : Stand p l e ({ frames := 0, cells := 0, slots := 0, locals := 0 } : Room) s m #[(.ref a), (.int (1 : Int32)), (.long x)] below meth c s₁ [] 0 0 := Stand.of_body Bd
  have e0 : s₁.heap = h0 := by rw [← hh, Bd.state]; rfl
  have N0 := Fr.nil n0
  have pre0 : ∀ t, Steps p.tables e below (s₁.setTop (mkF m 0 #[.val (.ref a), .val (.int (1 : Int32)), .val (.long x), .second] [])) t → Steps p.tables e below (s₁.setTop (entryFrame m #[(.ref a), (.int (1 : Int32)), (.long x)] 4)) t := fun t k => castTop (own_ef_rmS1 m a (1 : Int32) x) k
  obtain ⟨T1, X1, e1, st1⟩ := getF X0 hx hZ hown (host := "") (Or.inl (hw _ (List.mem_of_getElem? (i := 11) rfl))) Via.refl e0 F1 (g := (mkF m 1 #[.val (.ref a), .val (.int (1 : Int32)), .val (.long x), .second] [(.ref a)])) rfl rfl (hb hby own_d_prog_25_method_4_code_1)
  have fold2 : (((1 : Int32).toUInt32 >>> ((13 : Int32) &&& 31).toUInt32).toInt32) = (0 : Int32) := by decide +kernel
  obtain ⟨cl3, Ar3, q3, S3, M3, H3, G3⟩ := id A1
  have hin3 : ¬ ((0 : Int32) < 0 ∨ cl3.slots.size ≤ ((0 : Int32)).toNatClampNeg) := inb_of S3 ⟨by decide, by decide⟩
  have hat3 : cl3.slots[((0 : Int32)).toNatClampNeg]? = some (.ref ch) := Has.at H3 hin3 rfl
  have fold4 : ((1 : Int32) &&& (8191 : Int32)) = (1 : Int32) := by decide +kernel
  obtain ⟨cl5, Ar5, q5, S5, M5, H5, G5⟩ := id A2
  have hin5 : ¬ ((1 : Int32) < 0 ∨ cl5.slots.size ≤ ((1 : Int32)).toNatClampNeg) := inb_of S5 ⟨by decide, by decide⟩
  obtain ⟨T6, h6, X6, e6, W6, st6⟩ := stJ X1 hx hZ e1 Ar5 (j := (1 : Int32)) hin5 (g := (mkF m 15 #[.val (.ref a), .val (.int (1 : Int32)), .val (.long x), .second] [(.long x), (.int (1 : Int32)), (.ref ch)])) rfl rfl (hb hby own_d_prog_25_method_4_code_15)
  have V_ch_6 : Arv Z h6 ch kc .long (128 : Int32) [(.long x0), (.long x), (.long x2)] (.long (0 : Int64)) := Arv.set Ar5 q5 S5 M5 H5 G5 rfl W6 1 rfl (Nat.le_of_ble_eq_true rfl)
  have F6_0 := F1.other W6 (Or.inl ne_a_ch)
  have X6_0 := E_a.wr W6
  have V6_0 := A1.other W6 ne_bl_ch
  have z6 : n0 ≤ h6.size := by rw [W6.size]; exact Z0
  have K6 : Keep h0 h6 [ch] := (Keep.refl h0 [ch]).wr W6 (Or.inl (by simp))
  have N6 := Fr.snoc X6 N0 g_ch
  have pre7 : ∀ t, Steps p.tables e below (T6.setTop (mkF m 16 #[.val (.ref a), .val (.int (1 : Int32)), .val (.long x), .second] [])) t → Steps p.tables e below (s₁.setTop (entryFrame m #[(.ref a), (.int (1 : Int32)), (.long x)] 4)) t := fun t k => pre0 t (by
    show Steps p.tables e below (s₁.setTop (mkF m 0 #[.val (.ref a), .val (.int (1 : Int32)), .val (.long x), .second] [])) _
    refine XS.aloadN X0.here hx rfl (hb hby own_d_prog_25_method_4_code_0) rfl rfl ?_
    show Steps p.tables e below (s₁.setTop (mkF m 1 #[.val (.ref a), .val (.int (1 : Int32)), .val (.long x), .second] [(.ref a)])) _
    refine st1 _ ?_
    show Steps p.tables e below (T1.setTop (mkF m 4 #[.val (.ref a), .val (.int (1 : Int32)), .val (.long x), .second] [(.ref bl)])) _
    refine XS.iloadN X1.here hx rfl (hb hby own_d_prog_25_method_4_code_4) rfl ?_
    show Steps p.tables e below (T1.setTop (mkF m 5 #[.val (.ref a), .val (.int (1 : Int32)), .val (.long x), .second] [(.int (1 : Int32)), (.ref bl)])) _
    refine XS.bipush X1.here hx rfl (hb hby own_d_prog_25_method_4_code_5) ?_
    show Steps p.tables e below (T1.setTop (mkF m 7 #[.val (.ref a), .val (.int (1 : Int32)), .val (.long x), .second] [(.int (13 : Int32)), (.int (1 : Int32)), (.ref bl)])) _
    refine XS.iushr X1.here hx rfl (hb hby own_d_prog_25_method_4_code_7) rfl ?_
    show Steps p.tables e below (T1.setTop (mkF m 8 #[.val (.ref a), .val (.int (1 : Int32)), .val (.long x), .second] [(.int (((1 : Int32).toUInt32 >>> ((13 : Int32) &&& 31).toUInt32).toInt32)), (.ref bl)])) _
    rw [fold2]
    show Steps p.tables e below (T1.setTop (mkF m 8 #[.val (.ref a), .val (.int (1 : Int32)), .val (.long x), .second] [(.int (0 : Int32)), (.ref bl)])) _
    refine X1.aaload hx (j := (0 : Int32)) (v := (.ref ch)) (by rw [e1]; exact Ar3.1) (State.isArrayOf_alike hZ.alike Ar3.2.1) rfl Ar3.2.2 hin3 hat3 (g := (mkF m 8 #[.val (.ref a), .val (.int (1 : Int32)), .val (.long x), .second] [(.int (0 : Int32)), (.ref bl)])) rfl rfl (hb hby own_d_prog_25_method_4_code_8) _ ?_
    show Steps p.tables e below (T1.setTop (mkF m 9 #[.val (.ref a), .val (.int (1 : Int32)), .val (.long x), .second] [(.ref ch)])) _
    refine XS.iloadN X1.here hx rfl (hb hby own_d_prog_25_method_4_code_9) rfl ?_
    show Steps p.tables e below (T1.setTop (mkF m 10 #[.val (.ref a), .val (.int (1 : Int32)), .val (.long x), .second] [(.int (1 : Int32)), (.ref ch)])) _
    refine XS.sipush X1.here hx rfl (hb hby own_d_prog_25_method_4_code_10) ?_
    show Steps p.tables e below (T1.setTop (mkF m 13 #[.val (.ref a), .val (.int (1 : Int32)), .val (.long x), .second] [(.int (8191 : Int32)), (.int (1 : Int32)), (.ref ch)])) _
    refine XS.iand X1.here hx rfl (hb hby own_d_prog_25_method_4_code_13) rfl ?_
    show Steps p.tables e below (T1.setTop (mkF m 14 #[.val (.ref a), .val (.int (1 : Int32)), .val (.long x), .second] [(.int ((1 : Int32) &&& (8191 : Int32))), (.ref ch)])) _
    rw [fold4]
    show Steps p.tables e below (T1.setTop (mkF m 14 #[.val (.ref a), .val (.int (1 : Int32)), .val (.long x), .second] [(.int (1 : Int32)), (.ref ch)])) _
    refine XS.lloadN X1.here hx rfl (hb hby own_d_prog_25_method_4_code_14) rfl ?_
    show Steps p.tables e below (T1.setTop (mkF m 15 #[.val (.ref a), .val (.int (1 : Int32)), .val (.long x), .second] [(.long x), (.int (1 : Int32)), (.ref ch)])) _
    refine st6 _ ?_
    exact k)
  obtain ⟨fs, hr, hrun, hended, hW, hsame⟩ := X6.leave (v := none) (fun _ => rfl)
  refine ⟨_, _, pre7 _ ?_, hrun, hended, _, _, rfl, ?_, ⟨_, rfl⟩, hW, hsame.mono (by decide) (by decide)⟩
  · show Steps p.tables e below (T6.setTop (mkF m 16 #[.val (.ref a), .val (.int (1 : Int32)), .val (.long x), .second] [])) _
    exact X6.returnOut hx Bd.returns (hb hby own_d_prog_25_method_4_code_16) hr
  · show QS1 Z a bl ch kb kc x0 x1 x2 x h0 n0 _ T6.heap _
    rw [e6]
    exact ⟨rfl, N6, K6, V_ch_6⟩
theorem own_ef_rmG1 (m : MethodId) (y0 : Addr) (y1 : Int32) : entryFrame m #[(.ref y0), (.int y1)] 2 = mkF m 0 #[.val (.ref y0), .val (.int y1)] [] := by first | (simp [entryFrame, mkF, argsToLocals, Value.category]; done) | rfl
set_option maxRecDepth 65536 in
set_option maxHeartbeats 40000000 in
theorem rmG1 (l : Launch) (Z : State) (a0 : Array Value) (hw : ∀ d ∈ tables_1, d.before a0 Z = true) (ws : List Jvm.Cond) (a : Addr) (bl ch : Addr) (kb kc : ClassId) (x0 x1 x2 : Int64) (h0 : Heap) (n0 : Nat) (Z0 : n0 ≤ h0.size) (E_a : Exa Z h0 a "com/example/sameshape/sameshape/diff/LongColumn") (g_a : n0 ≤ a) (F1 : Fld Z h0 a "com/example/sameshape/sameshape/diff/LongColumn" "blocks" "[[J" (.ref bl)) (g_bl : n0 ≤ bl) (O : own_Ovr Z kb "[J") (ne_a_bl : a ≠ bl) (g_ch : n0 ≤ ch) (ne_a_ch : a ≠ ch) (ne_bl_ch : bl ≠ ch) (A1 : Arv Z h0 bl kb (.array .long) (1 : Int32) [(.ref ch)] .null) (A2 : Arv Z h0 ch kc .long (128 : Int32) [(.long x0), (.long x1), (.long x2)] (.long (0 : Int64))) :
    MetFree l (⟨"com/example/sameshape/sameshape/diff/LongColumn", "get", "(I)J"⟩ : MethodName) (head1 (Jvm.Cond.code (⟨"com/example/sameshape/sameshape/diff/LongColumn", "get", "(I)J"⟩ : MethodName) prog_25_method_3_code 2 (some .long) :: ws) ({ frames := 0, cells := 0, slots := 0, locals := 0 } : Room)) (fun ar_ U => ar_ = #[(.ref a), (.int (1 : Int32))] ∧ Z.Warmed39 U.vm ∧ U.heap = h0) (fun _ _ _ _ _ => True) (fun _ U o U' => ∃ v L, o = .returned v ∧ QP (.long x1) h0 n0 v U'.heap L ∧ FrameEnd U o U' L ({ frames := 0, cells := 0, slots := 0, locals := 0 } : Room).cells ({ frames := 0, cells := 0, slots := 0, locals := 0 } : Room).slots) := by
  refine MetFree.of_bodySF (plainFor_of_name own_pn0) hisR ?_
  intro p e s m args below meth c s₁ Bd hml0 hP hK
  obtain ⟨rfl, hZ, hh⟩ := hP
  have hx := Bd.exec
  have hby := Bd.bytes
  have hml : c.maxLocals = 2 := hml0
  have hown : s.vm.findClass "com/example/sameshape/sameshape/diff/LongColumn" = some m.cls := findClass_of_methodNamed Bd.named
  have hnm := (name_of_methodNamed Bd.named Bd.method).1
  have X0 : Stand p l e ({ frames := 0, cells := 0, slots := 0, locals := 0 } : Room) s m #[(.ref a), (.int (1 : Int32))] below meth c s₁ [] 0 0 := Stand.of_body Bd
  have e0 : s₁.heap = h0 := by rw [← hh, Bd.state]; rfl
  have N0 := Fr.nil n0
  have pre0 : ∀ t, Steps p.tables e below (s₁.setTop (mkF m 0 #[.val (.ref a), .val (.int (1 : Int32))] [])) t → Steps p.tables e below (s₁.setTop (entryFrame m #[(.ref a), (.int (1 : Int32))] 2)) t := fun t k => castTop (own_ef_rmG1 m a (1 : Int32)) k
  obtain ⟨T1, X1, e1, st1⟩ := getF X0 hx hZ hown (host := "") (Or.inl (hw _ (List.mem_of_getElem? (i := 11) rfl))) Via.refl e0 F1 (g := (mkF m 1 #[.val (.ref a), .val (.int (1 : Int32))] [(.ref a)])) rfl rfl (hb hby own_d_prog_25_method_3_code_1)
  have fold2 : (((1 : Int32).toUInt32 >>> ((13 : Int32) &&& 31).toUInt32).toInt32) = (0 : Int32) := by decide +kernel
  obtain ⟨cl3, Ar3, q3, S3, M3, H3, G3⟩ := id A1
  have hin3 : ¬ ((0 : Int32) < 0 ∨ cl3.slots.size ≤ ((0 : Int32)).toNatClampNeg) := inb_of S3 ⟨by decide, by decide⟩
  have hat3 : cl3.slots[((0 : Int32)).toNatClampNeg]? = some (.ref ch) := Has.at H3 hin3 rfl
  have fold4 : ((1 : Int32) &&& (8191 : Int32)) = (1 : Int32) := by decide +kernel
  obtain ⟨cl5, Ar5, q5, S5, M5, H5, G5⟩ := id A2
  have hin5 : ¬ ((1 : Int32) < 0 ∨ cl5.slots.size ≤ ((1 : Int32)).toNatClampNeg) := inb_of S5 ⟨by decide, by decide⟩
  have hat5 : cl5.slots[((1 : Int32)).toNatClampNeg]? = some (.long x1) := Has.at H5 hin5 rfl
  have pre6 : ∀ t, Steps p.tables e below (T1.setTop (mkF m 15 #[.val (.ref a), .val (.int (1 : Int32))] [(.long x1)])) t → Steps p.tables e below (s₁.setTop (entryFrame m #[(.ref a), (.int (1 : Int32))] 2)) t := fun t k => pre0 t (by
    show Steps p.tables e below (s₁.setTop (mkF m 0 #[.val (.ref a), .val (.int (1 : Int32))] [])) _
    refine XS.aloadN X0.here hx rfl (hb hby own_d_prog_25_method_3_code_0) rfl rfl ?_
    show Steps p.tables e below (s₁.setTop (mkF m 1 #[.val (.ref a), .val (.int (1 : Int32))] [(.ref a)])) _
    refine st1 _ ?_
    show Steps p.tables e below (T1.setTop (mkF m 4 #[.val (.ref a), .val (.int (1 : Int32))] [(.ref bl)])) _
    refine XS.iloadN X1.here hx rfl (hb hby own_d_prog_25_method_3_code_4) rfl ?_
    show Steps p.tables e below (T1.setTop (mkF m 5 #[.val (.ref a), .val (.int (1 : Int32))] [(.int (1 : Int32)), (.ref bl)])) _
    refine XS.bipush X1.here hx rfl (hb hby own_d_prog_25_method_3_code_5) ?_
    show Steps p.tables e below (T1.setTop (mkF m 7 #[.val (.ref a), .val (.int (1 : Int32))] [(.int (13 : Int32)), (.int (1 : Int32)), (.ref bl)])) _
    refine XS.iushr X1.here hx rfl (hb hby own_d_prog_25_method_3_code_7) rfl ?_
    show Steps p.tables e below (T1.setTop (mkF m 8 #[.val (.ref a), .val (.int (1 : Int32))] [(.int (((1 : Int32).toUInt32 >>> ((13 : Int32) &&& 31).toUInt32).toInt32)), (.ref bl)])) _
    rw [fold2]
    show Steps p.tables e below (T1.setTop (mkF m 8 #[.val (.ref a), .val (.int (1 : Int32))] [(.int (0 : Int32)), (.ref bl)])) _
    refine X1.aaload hx (j := (0 : Int32)) (v := (.ref ch)) (by rw [e1]; exact Ar3.1) (State.isArrayOf_alike hZ.alike Ar3.2.1) rfl Ar3.2.2 hin3 hat3 (g := (mkF m 8 #[.val (.ref a), .val (.int (1 : Int32))] [(.int (0 : Int32)), (.ref bl)])) rfl rfl (hb hby own_d_prog_25_method_3_code_8) _ ?_
    show Steps p.tables e below (T1.setTop (mkF m 9 #[.val (.ref a), .val (.int (1 : Int32))] [(.ref ch)])) _
    refine XS.iloadN X1.here hx rfl (hb hby own_d_prog_25_method_3_code_9) rfl ?_
    show Steps p.tables e below (T1.setTop (mkF m 10 #[.val (.ref a), .val (.int (1 : Int32))] [(.int (1 : Int32)), (.ref ch)])) _
    refine XS.sipush X1.here hx rfl (hb hby own_d_prog_25_method_3_code_10) ?_
    show Steps p.tables e below (T1.setTop (mkF m 13 #[.val (.ref a), .val (.int (1 : Int32))] [(.int (8191 : Int32)), (.int (1 : Int32)), (.ref ch)])) _
    refine XS.iand X1.here hx rfl (hb hby own_d_prog_25_method_3_code_13) rfl ?_
    show Steps p.tables e below (T1.setTop (mkF m 14 #[.val (.ref a), .val (.int (1 : Int32))] [(.int ((1 : Int32) &&& (8191 : Int32))), (.ref ch)])) _
    rw [fold4]
    show Steps p.tables e below (T1.setTop (mkF m 14 #[.val (.ref a), .val (.int (1 : Int32))] [(.int (1 : Int32)), (.ref ch)])) _
    refine X1.laload hx (j := (1 : Int32)) (v := (.long x1)) (by rw [e1]; exact Ar5.1) (State.isArrayOf_alike hZ.alike Ar5.2.1) Ar5.2.2 hin5 hat5 (g := (mkF m 14 #[.val (.ref a), .val (.int (1 : Int32))] [(.int (1 : Int32)), (.ref ch)])) rfl rfl (hb hby own_d_prog_25_method_3_code_14) _ ?_
    exact k)
  obtain ⟨fs, hr, hrun, hended, hW, hsame⟩ := X1.leave (v := some (.long x1)) (fun h => by rw [Bd.returns] at h; cases h)
  refine ⟨_, _, pre6 _ ?_, hrun, hended, _, _, rfl, ?_, ⟨_, rfl⟩, hW, hsame.mono (by decide) (by decide)⟩
  · show Steps p.tables e below (T1.setTop (mkF m 15 #[.val (.ref a), .val (.int (1 : Int32))] [(.long x1)])) _
    exact retOut X1 hx (t := .long) (i := .lreturn) Bd.returns rfl (Or.inr (Or.inl ⟨rfl, rfl, _, rfl⟩)) (hb hby own_d_prog_25_method_3_code_15) hr
  · show QP (.long x1) h0 n0 _ T1.heap _
    rw [e1]
    exact ⟨rfl, N0, rfl⟩
def QS2 (Z : State) (a bl ch : Addr) (kb kc : ClassId) (x0 x1 x2 x : Int64) (h0 : Heap) (n0 : Nat) (v : Option Value) (h : Heap) (L : List Loc) : Prop := v = none ∧ Fr n0 L ∧ Keep h0 h [ch] ∧ Arv Z h ch kc .long (128 : Int32) [(.long x0), (.long x1), (.long x)] (.long (0 : Int64))
theorem own_ef_rmS2 (m : MethodId) (y0 : Addr) (y1 : Int32) (y2 : Int64) : entryFrame m #[(.ref y0), (.int y1), (.long y2)] 4 = mkF m 0 #[.val (.ref y0), .val (.int y1), .val (.long y2), .second] [] := by first | (simp [entryFrame, mkF, argsToLocals, Value.category]; done) | rfl
set_option maxRecDepth 65536 in
set_option maxHeartbeats 40000000 in
theorem rmS2 (l : Launch) (Z : State) (a0 : Array Value) (hw : ∀ d ∈ tables_1, d.before a0 Z = true) (ws : List Jvm.Cond) (a : Addr) (x : Int64) (bl ch : Addr) (kb kc : ClassId) (x0 x1 x2 : Int64) (h0 : Heap) (n0 : Nat) (Z0 : n0 ≤ h0.size) (E_a : Exa Z h0 a "com/example/sameshape/sameshape/diff/LongColumn") (g_a : n0 ≤ a) (F1 : Fld Z h0 a "com/example/sameshape/sameshape/diff/LongColumn" "blocks" "[[J" (.ref bl)) (g_bl : n0 ≤ bl) (O : own_Ovr Z kb "[J") (ne_a_bl : a ≠ bl) (g_ch : n0 ≤ ch) (ne_a_ch : a ≠ ch) (ne_bl_ch : bl ≠ ch) (A1 : Arv Z h0 bl kb (.array .long) (1 : Int32) [(.ref ch)] .null) (A2 : Arv Z h0 ch kc .long (128 : Int32) [(.long x0), (.long x1), (.long x2)] (.long (0 : Int64))) :
    MetFree l (⟨"com/example/sameshape/sameshape/diff/LongColumn", "set", "(IJ)V"⟩ : MethodName) (head1 (Jvm.Cond.code (⟨"com/example/sameshape/sameshape/diff/LongColumn", "set", "(IJ)V"⟩ : MethodName) prog_25_method_4_code 4 none :: ws) ({ frames := 0, cells := 0, slots := 0, locals := 0 } : Room)) (fun ar_ U => ar_ = #[(.ref a), (.int (2 : Int32)), (.long x)] ∧ Z.Warmed39 U.vm ∧ U.heap = h0) (fun _ _ _ _ _ => True) (fun _ U o U' => ∃ v L, o = .returned v ∧ QS2 Z a bl ch kb kc x0 x1 x2 x h0 n0 v U'.heap L ∧ FrameEnd U o U' L ({ frames := 0, cells := 0, slots := 0, locals := 0 } : Room).cells ({ frames := 0, cells := 0, slots := 0, locals := 0 } : Room).slots) := by
  refine MetFree.of_bodySF (plainFor_of_name own_pn0) hisR ?_
  intro p e s m args below meth c s₁ Bd hml0 hP hK
  obtain ⟨rfl, hZ, hh⟩ := hP
  have hx := Bd.exec
  have hby := Bd.bytes
  have hml : c.maxLocals = 4 := hml0
  have hown : s.vm.findClass "com/example/sameshape/sameshape/diff/LongColumn" = some m.cls := findClass_of_methodNamed Bd.named
  have hnm := (name_of_methodNamed Bd.named Bd.method).1
  have X0 : Stand p l e ({ frames := 0, cells := 0, slots := 0, locals := 0 } : Room) s m #[(.ref a), (.int (2 : Int32)), (.long x)] below meth c s₁ [] 0 0 := Stand.of_body Bd
  have e0 : s₁.heap = h0 := by rw [← hh, Bd.state]; rfl
  have N0 := Fr.nil n0
  have pre0 : ∀ t, Steps p.tables e below (s₁.setTop (mkF m 0 #[.val (.ref a), .val (.int (2 : Int32)), .val (.long x), .second] [])) t → Steps p.tables e below (s₁.setTop (entryFrame m #[(.ref a), (.int (2 : Int32)), (.long x)] 4)) t := fun t k => castTop (own_ef_rmS2 m a (2 : Int32) x) k
  obtain ⟨T1, X1, e1, st1⟩ := getF X0 hx hZ hown (host := "") (Or.inl (hw _ (List.mem_of_getElem? (i := 11) rfl))) Via.refl e0 F1 (g := (mkF m 1 #[.val (.ref a), .val (.int (2 : Int32)), .val (.long x), .second] [(.ref a)])) rfl rfl (hb hby own_d_prog_25_method_4_code_1)
  have fold2 : (((2 : Int32).toUInt32 >>> ((13 : Int32) &&& 31).toUInt32).toInt32) = (0 : Int32) := by decide +kernel
  obtain ⟨cl3, Ar3, q3, S3, M3, H3, G3⟩ := id A1
  have hin3 : ¬ ((0 : Int32) < 0 ∨ cl3.slots.size ≤ ((0 : Int32)).toNatClampNeg) := inb_of S3 ⟨by decide, by decide⟩
  have hat3 : cl3.slots[((0 : Int32)).toNatClampNeg]? = some (.ref ch) := Has.at H3 hin3 rfl
  have fold4 : ((2 : Int32) &&& (8191 : Int32)) = (2 : Int32) := by decide +kernel
  obtain ⟨cl5, Ar5, q5, S5, M5, H5, G5⟩ := id A2
  have hin5 : ¬ ((2 : Int32) < 0 ∨ cl5.slots.size ≤ ((2 : Int32)).toNatClampNeg) := inb_of S5 ⟨by decide, by decide⟩
  obtain ⟨T6, h6, X6, e6, W6, st6⟩ := stJ X1 hx hZ e1 Ar5 (j := (2 : Int32)) hin5 (g := (mkF m 15 #[.val (.ref a), .val (.int (2 : Int32)), .val (.long x), .second] [(.long x), (.int (2 : Int32)), (.ref ch)])) rfl rfl (hb hby own_d_prog_25_method_4_code_15)
  have V_ch_6 : Arv Z h6 ch kc .long (128 : Int32) [(.long x0), (.long x1), (.long x)] (.long (0 : Int64)) := Arv.set Ar5 q5 S5 M5 H5 G5 rfl W6 2 rfl (Nat.le_of_ble_eq_true rfl)
  have F6_0 := F1.other W6 (Or.inl ne_a_ch)
  have X6_0 := E_a.wr W6
  have V6_0 := A1.other W6 ne_bl_ch
  have z6 : n0 ≤ h6.size := by rw [W6.size]; exact Z0
  have K6 : Keep h0 h6 [ch] := (Keep.refl h0 [ch]).wr W6 (Or.inl (by simp))
  have N6 := Fr.snoc X6 N0 g_ch
  have pre7 : ∀ t, Steps p.tables e below (T6.setTop (mkF m 16 #[.val (.ref a), .val (.int (2 : Int32)), .val (.long x), .second] [])) t → Steps p.tables e below (s₁.setTop (entryFrame m #[(.ref a), (.int (2 : Int32)), (.long x)] 4)) t := fun t k => pre0 t (by
    show Steps p.tables e below (s₁.setTop (mkF m 0 #[.val (.ref a), .val (.int (2 : Int32)), .val (.long x), .second] [])) _
    refine XS.aloadN X0.here hx rfl (hb hby own_d_prog_25_method_4_code_0) rfl rfl ?_
    show Steps p.tables e below (s₁.setTop (mkF m 1 #[.val (.ref a), .val (.int (2 : Int32)), .val (.long x), .second] [(.ref a)])) _
    refine st1 _ ?_
    show Steps p.tables e below (T1.setTop (mkF m 4 #[.val (.ref a), .val (.int (2 : Int32)), .val (.long x), .second] [(.ref bl)])) _
    refine XS.iloadN X1.here hx rfl (hb hby own_d_prog_25_method_4_code_4) rfl ?_
    show Steps p.tables e below (T1.setTop (mkF m 5 #[.val (.ref a), .val (.int (2 : Int32)), .val (.long x), .second] [(.int (2 : Int32)), (.ref bl)])) _
    refine XS.bipush X1.here hx rfl (hb hby own_d_prog_25_method_4_code_5) ?_
    show Steps p.tables e below (T1.setTop (mkF m 7 #[.val (.ref a), .val (.int (2 : Int32)), .val (.long x), .second] [(.int (13 : Int32)), (.int (2 : Int32)), (.ref bl)])) _
    refine XS.iushr X1.here hx rfl (hb hby own_d_prog_25_method_4_code_7) rfl ?_
    show Steps p.tables e below (T1.setTop (mkF m 8 #[.val (.ref a), .val (.int (2 : Int32)), .val (.long x), .second] [(.int (((2 : Int32).toUInt32 >>> ((13 : Int32) &&& 31).toUInt32).toInt32)), (.ref bl)])) _
    rw [fold2]
    show Steps p.tables e below (T1.setTop (mkF m 8 #[.val (.ref a), .val (.int (2 : Int32)), .val (.long x), .second] [(.int (0 : Int32)), (.ref bl)])) _
    refine X1.aaload hx (j := (0 : Int32)) (v := (.ref ch)) (by rw [e1]; exact Ar3.1) (State.isArrayOf_alike hZ.alike Ar3.2.1) rfl Ar3.2.2 hin3 hat3 (g := (mkF m 8 #[.val (.ref a), .val (.int (2 : Int32)), .val (.long x), .second] [(.int (0 : Int32)), (.ref bl)])) rfl rfl (hb hby own_d_prog_25_method_4_code_8) _ ?_
    show Steps p.tables e below (T1.setTop (mkF m 9 #[.val (.ref a), .val (.int (2 : Int32)), .val (.long x), .second] [(.ref ch)])) _
    refine XS.iloadN X1.here hx rfl (hb hby own_d_prog_25_method_4_code_9) rfl ?_
    show Steps p.tables e below (T1.setTop (mkF m 10 #[.val (.ref a), .val (.int (2 : Int32)), .val (.long x), .second] [(.int (2 : Int32)), (.ref ch)])) _
    refine XS.sipush X1.here hx rfl (hb hby own_d_prog_25_method_4_code_10) ?_
    show Steps p.tables e below (T1.setTop (mkF m 13 #[.val (.ref a), .val (.int (2 : Int32)), .val (.long x), .second] [(.int (8191 : Int32)), (.int (2 : Int32)), (.ref ch)])) _
    refine XS.iand X1.here hx rfl (hb hby own_d_prog_25_method_4_code_13) rfl ?_
    show Steps p.tables e below (T1.setTop (mkF m 14 #[.val (.ref a), .val (.int (2 : Int32)), .val (.long x), .second] [(.int ((2 : Int32) &&& (8191 : Int32))), (.ref ch)])) _
    rw [fold4]
    show Steps p.tables e below (T1.setTop (mkF m 14 #[.val (.ref a), .val (.int (2 : Int32)), .val (.long x), .second] [(.int (2 : Int32)), (.ref ch)])) _
    refine XS.lloadN X1.here hx rfl (hb hby own_d_prog_25_method_4_code_14) rfl ?_
    show Steps p.tables e below (T1.setTop (mkF m 15 #[.val (.ref a), .val (.int (2 : Int32)), .val (.long x), .second] [(.long x), (.int (2 : Int32)), (.ref ch)])) _
    refine st6 _ ?_
    exact k)
  obtain ⟨fs, hr, hrun, hended, hW, hsame⟩ := X6.leave (v := none) (fun _ => rfl)
  refine ⟨_, _, pre7 _ ?_, hrun, hended, _, _, rfl, ?_, ⟨_, rfl⟩, hW, hsame.mono (by decide) (by decide)⟩
  · show Steps p.tables e below (T6.setTop (mkF m 16 #[.val (.ref a), .val (.int (2 : Int32)), .val (.long x), .second] [])) _
    exact X6.returnOut hx Bd.returns (hb hby own_d_prog_25_method_4_code_16) hr
  · show QS2 Z a bl ch kb kc x0 x1 x2 x h0 n0 _ T6.heap _
    rw [e6]
    exact ⟨rfl, N6, K6, V_ch_6⟩
theorem own_ef_rmG2 (m : MethodId) (y0 : Addr) (y1 : Int32) : entryFrame m #[(.ref y0), (.int y1)] 2 = mkF m 0 #[.val (.ref y0), .val (.int y1)] [] := by first | (simp [entryFrame, mkF, argsToLocals, Value.category]; done) | rfl
set_option maxRecDepth 65536 in
set_option maxHeartbeats 40000000 in
theorem rmG2 (l : Launch) (Z : State) (a0 : Array Value) (hw : ∀ d ∈ tables_1, d.before a0 Z = true) (ws : List Jvm.Cond) (a : Addr) (bl ch : Addr) (kb kc : ClassId) (x0 x1 x2 : Int64) (h0 : Heap) (n0 : Nat) (Z0 : n0 ≤ h0.size) (E_a : Exa Z h0 a "com/example/sameshape/sameshape/diff/LongColumn") (g_a : n0 ≤ a) (F1 : Fld Z h0 a "com/example/sameshape/sameshape/diff/LongColumn" "blocks" "[[J" (.ref bl)) (g_bl : n0 ≤ bl) (O : own_Ovr Z kb "[J") (ne_a_bl : a ≠ bl) (g_ch : n0 ≤ ch) (ne_a_ch : a ≠ ch) (ne_bl_ch : bl ≠ ch) (A1 : Arv Z h0 bl kb (.array .long) (1 : Int32) [(.ref ch)] .null) (A2 : Arv Z h0 ch kc .long (128 : Int32) [(.long x0), (.long x1), (.long x2)] (.long (0 : Int64))) :
    MetFree l (⟨"com/example/sameshape/sameshape/diff/LongColumn", "get", "(I)J"⟩ : MethodName) (head1 (Jvm.Cond.code (⟨"com/example/sameshape/sameshape/diff/LongColumn", "get", "(I)J"⟩ : MethodName) prog_25_method_3_code 2 (some .long) :: ws) ({ frames := 0, cells := 0, slots := 0, locals := 0 } : Room)) (fun ar_ U => ar_ = #[(.ref a), (.int (2 : Int32))] ∧ Z.Warmed39 U.vm ∧ U.heap = h0) (fun _ _ _ _ _ => True) (fun _ U o U' => ∃ v L, o = .returned v ∧ QP (.long x2) h0 n0 v U'.heap L ∧ FrameEnd U o U' L ({ frames := 0, cells := 0, slots := 0, locals := 0 } : Room).cells ({ frames := 0, cells := 0, slots := 0, locals := 0 } : Room).slots) := by
  refine MetFree.of_bodySF (plainFor_of_name own_pn0) hisR ?_
  intro p e s m args below meth c s₁ Bd hml0 hP hK
  obtain ⟨rfl, hZ, hh⟩ := hP
  have hx := Bd.exec
  have hby := Bd.bytes
  have hml : c.maxLocals = 2 := hml0
  have hown : s.vm.findClass "com/example/sameshape/sameshape/diff/LongColumn" = some m.cls := findClass_of_methodNamed Bd.named
  have hnm := (name_of_methodNamed Bd.named Bd.method).1
  have X0 : Stand p l e ({ frames := 0, cells := 0, slots := 0, locals := 0 } : Room) s m #[(.ref a), (.int (2 : Int32))] below meth c s₁ [] 0 0 := Stand.of_body Bd
  have e0 : s₁.heap = h0 := by rw [← hh, Bd.state]; rfl
  have N0 := Fr.nil n0
  have pre0 : ∀ t, Steps p.tables e below (s₁.setTop (mkF m 0 #[.val (.ref a), .val (.int (2 : Int32))] [])) t → Steps p.tables e below (s₁.setTop (entryFrame m #[(.ref a), (.int (2 : Int32))] 2)) t := fun t k => castTop (own_ef_rmG2 m a (2 : Int32)) k
  obtain ⟨T1, X1, e1, st1⟩ := getF X0 hx hZ hown (host := "") (Or.inl (hw _ (List.mem_of_getElem? (i := 11) rfl))) Via.refl e0 F1 (g := (mkF m 1 #[.val (.ref a), .val (.int (2 : Int32))] [(.ref a)])) rfl rfl (hb hby own_d_prog_25_method_3_code_1)
  have fold2 : (((2 : Int32).toUInt32 >>> ((13 : Int32) &&& 31).toUInt32).toInt32) = (0 : Int32) := by decide +kernel
  obtain ⟨cl3, Ar3, q3, S3, M3, H3, G3⟩ := id A1
  have hin3 : ¬ ((0 : Int32) < 0 ∨ cl3.slots.size ≤ ((0 : Int32)).toNatClampNeg) := inb_of S3 ⟨by decide, by decide⟩
  have hat3 : cl3.slots[((0 : Int32)).toNatClampNeg]? = some (.ref ch) := Has.at H3 hin3 rfl
  have fold4 : ((2 : Int32) &&& (8191 : Int32)) = (2 : Int32) := by decide +kernel
  obtain ⟨cl5, Ar5, q5, S5, M5, H5, G5⟩ := id A2
  have hin5 : ¬ ((2 : Int32) < 0 ∨ cl5.slots.size ≤ ((2 : Int32)).toNatClampNeg) := inb_of S5 ⟨by decide, by decide⟩
  have hat5 : cl5.slots[((2 : Int32)).toNatClampNeg]? = some (.long x2) := Has.at H5 hin5 rfl
  have pre6 : ∀ t, Steps p.tables e below (T1.setTop (mkF m 15 #[.val (.ref a), .val (.int (2 : Int32))] [(.long x2)])) t → Steps p.tables e below (s₁.setTop (entryFrame m #[(.ref a), (.int (2 : Int32))] 2)) t := fun t k => pre0 t (by
    show Steps p.tables e below (s₁.setTop (mkF m 0 #[.val (.ref a), .val (.int (2 : Int32))] [])) _
    refine XS.aloadN X0.here hx rfl (hb hby own_d_prog_25_method_3_code_0) rfl rfl ?_
    show Steps p.tables e below (s₁.setTop (mkF m 1 #[.val (.ref a), .val (.int (2 : Int32))] [(.ref a)])) _
    refine st1 _ ?_
    show Steps p.tables e below (T1.setTop (mkF m 4 #[.val (.ref a), .val (.int (2 : Int32))] [(.ref bl)])) _
    refine XS.iloadN X1.here hx rfl (hb hby own_d_prog_25_method_3_code_4) rfl ?_
    show Steps p.tables e below (T1.setTop (mkF m 5 #[.val (.ref a), .val (.int (2 : Int32))] [(.int (2 : Int32)), (.ref bl)])) _
    refine XS.bipush X1.here hx rfl (hb hby own_d_prog_25_method_3_code_5) ?_
    show Steps p.tables e below (T1.setTop (mkF m 7 #[.val (.ref a), .val (.int (2 : Int32))] [(.int (13 : Int32)), (.int (2 : Int32)), (.ref bl)])) _
    refine XS.iushr X1.here hx rfl (hb hby own_d_prog_25_method_3_code_7) rfl ?_
    show Steps p.tables e below (T1.setTop (mkF m 8 #[.val (.ref a), .val (.int (2 : Int32))] [(.int (((2 : Int32).toUInt32 >>> ((13 : Int32) &&& 31).toUInt32).toInt32)), (.ref bl)])) _
    rw [fold2]
    show Steps p.tables e below (T1.setTop (mkF m 8 #[.val (.ref a), .val (.int (2 : Int32))] [(.int (0 : Int32)), (.ref bl)])) _
    refine X1.aaload hx (j := (0 : Int32)) (v := (.ref ch)) (by rw [e1]; exact Ar3.1) (State.isArrayOf_alike hZ.alike Ar3.2.1) rfl Ar3.2.2 hin3 hat3 (g := (mkF m 8 #[.val (.ref a), .val (.int (2 : Int32))] [(.int (0 : Int32)), (.ref bl)])) rfl rfl (hb hby own_d_prog_25_method_3_code_8) _ ?_
    show Steps p.tables e below (T1.setTop (mkF m 9 #[.val (.ref a), .val (.int (2 : Int32))] [(.ref ch)])) _
    refine XS.iloadN X1.here hx rfl (hb hby own_d_prog_25_method_3_code_9) rfl ?_
    show Steps p.tables e below (T1.setTop (mkF m 10 #[.val (.ref a), .val (.int (2 : Int32))] [(.int (2 : Int32)), (.ref ch)])) _
    refine XS.sipush X1.here hx rfl (hb hby own_d_prog_25_method_3_code_10) ?_
    show Steps p.tables e below (T1.setTop (mkF m 13 #[.val (.ref a), .val (.int (2 : Int32))] [(.int (8191 : Int32)), (.int (2 : Int32)), (.ref ch)])) _
    refine XS.iand X1.here hx rfl (hb hby own_d_prog_25_method_3_code_13) rfl ?_
    show Steps p.tables e below (T1.setTop (mkF m 14 #[.val (.ref a), .val (.int (2 : Int32))] [(.int ((2 : Int32) &&& (8191 : Int32))), (.ref ch)])) _
    rw [fold4]
    show Steps p.tables e below (T1.setTop (mkF m 14 #[.val (.ref a), .val (.int (2 : Int32))] [(.int (2 : Int32)), (.ref ch)])) _
    refine X1.laload hx (j := (2 : Int32)) (v := (.long x2)) (by rw [e1]; exact Ar5.1) (State.isArrayOf_alike hZ.alike Ar5.2.1) Ar5.2.2 hin5 hat5 (g := (mkF m 14 #[.val (.ref a), .val (.int (2 : Int32))] [(.int (2 : Int32)), (.ref ch)])) rfl rfl (hb hby own_d_prog_25_method_3_code_14) _ ?_
    exact k)
  obtain ⟨fs, hr, hrun, hended, hW, hsame⟩ := X1.leave (v := some (.long x2)) (fun h => by rw [Bd.returns] at h; cases h)
  refine ⟨_, _, pre6 _ ?_, hrun, hended, _, _, rfl, ?_, ⟨_, rfl⟩, hW, hsame.mono (by decide) (by decide)⟩
  · show Steps p.tables e below (T1.setTop (mkF m 15 #[.val (.ref a), .val (.int (2 : Int32))] [(.long x2)])) _
    exact retOut X1 hx (t := .long) (i := .lreturn) Bd.returns rfl (Or.inr (Or.inl ⟨rfl, rfl, _, rfl⟩)) (hb hby own_d_prog_25_method_3_code_15) hr
  · show QP (.long x2) h0 n0 _ T1.heap _
    rw [e1]
    exact ⟨rfl, N0, rfl⟩
theorem own_ef_rm0 (m : MethodId) (y0 : Int64) (y1 : Int64) (y2 : Int64) (y3 : Int64) (y4 : Int32) : entryFrame m #[(.long y0), (.long y1), (.long y2), (.long y3), (.int y4)] maxLocals = mkF m 0 #[.val (.long y0), .second, .val (.long y1), .second, .val (.long y2), .second, .val (.long y3), .second, .val (.int y4), .unset, .unset, .unset, .unset, .unset, .unset, .unset, .unset] [] := by first | (simp [entryFrame, mkF, argsToLocals, Value.category, maxLocals]; done) | rfl
set_option maxRecDepth 65536 in
set_option maxHeartbeats 40000000 in
theorem rm0 (l : Launch) (Z : State) (a0 : Array Value) (hw : ∀ d ∈ tables_1, d.before a0 Z = true) (ws : List Jvm.Cond) (p1 : Int64) (p2 : Int64) (p3 : Int64) (p5 : Int64) (p4 : Int32) (h0 : Heap) (n0 : Nat) (Z0 : n0 ≤ h0.size)  :
    MetFree l x (head1 (Jvm.Cond.code x code maxLocals ret :: ws) room_1) (fun ar_ U => ar_ = #[(.long p1), (.long p2), (.long p3), (.long p5), (.int p4)] ∧ Z.Warmed39 U.vm ∧ U.heap = h0) (fun _ _ _ _ _ => True) (fun _ U o U' => ∃ v L, o = .returned v ∧ QL n0 v U'.heap L ∧ FrameEnd U o U' L 3 131) := by
  refine MetFree.of_bodySF (plainFor_of_name own_pn1) hisR ?_
  intro p e s m args below meth c s₁ Bd hml0 hP hK
  obtain ⟨rfl, hZ, hh⟩ := hP
  have hx := Bd.exec
  have hby := Bd.bytes
  have hml : c.maxLocals = 17 := hml0
  have hown : s.vm.findClass "com/example/sameshape/sameshape/diff/LongColumnSetPinLaw" = some m.cls := findClass_of_methodNamed Bd.named
  have hnm := (name_of_methodNamed Bd.named Bd.method).1
  have X0 : Stand p l e room_1 s m #[(.long p1), (.long p2), (.long p3), (.long p5), (.int p4)] below meth c s₁ [] 0 0 := Stand.of_body Bd
  have e0 : s₁.heap = h0 := by rw [← hh, Bd.state]; rfl
  have N0 := Fr.nil n0
  have pre0 : ∀ t, Steps p.tables e below (s₁.setTop (mkF m 0 #[.val (.long p1), .second, .val (.long p2), .second, .val (.long p3), .second, .val (.long p5), .second, .val (.int p4), .unset, .unset, .unset, .unset, .unset, .unset, .unset, .unset] [])) t → Steps p.tables e below (s₁.setTop (entryFrame m #[(.long p1), (.long p2), (.long p3), (.long p5), (.int p4)] maxLocals)) t := fun t k => castTop (own_ef_rm0 m p1 p2 p3 p5 p4) k
  obtain ⟨T1, h1, X1, e1, E1, A1, D1, -, st1⟩ := newO X0 hx hZ hown (hw _ (List.mem_of_getElem? (i := 0) rfl)) (hw _ (List.mem_of_getElem? (i := 1) rfl)) (hw _ (List.mem_of_getElem? (i := 2) rfl)) e0 (g := (mkF m 0 #[.val (.long p1), .second, .val (.long p2), .second, .val (.long p3), .second, .val (.long p5), .second, .val (.int p4), .unset, .unset, .unset, .unset, .unset, .unset, .unset, .unset] [])) rfl (hb hby at_0) (by decide) (by decide)
  obtain ⟨b1, g1⟩ : ∃ z, z = h0.size := ⟨_, rfl⟩
  rw [← g1] at A1 D1 st1
  have g_b1 : n0 ≤ b1 := Nat.le_trans Z0 (Nat.le_of_eq g1.symm)
  have z1 : n0 ≤ h1.size := Nat.le_trans Z0 E1.1
  have F_blocks_b1 : Fld Z h1 b1 "com/example/sameshape/sameshape/diff/LongColumn" "blocks" "[[J" .null := D1 (Or.inl (hw _ (List.mem_of_getElem? (i := 12) rfl))) (ty := (.array (.array .long))) (by decide)
  have F_size_b1 : Fld Z h1 b1 "com/example/sameshape/sameshape/diff/LongColumn" "size" "I" (.int (0 : Int32)) := D1 (Or.inl (hw _ (List.mem_of_getElem? (i := 19) rfl))) (ty := .int) (by decide)
  obtain ⟨_, _, ⟨T2, L2, k2, n2⟩, -, X2, ⟨Lc2, hQ2, l2, y2, z2⟩, st2⟩ := X1.specialBack hx (y := (⟨"com/example/sameshape/sameshape/diff/LongColumn", "<init>", "()V"⟩ : MethodName)) rfl hown (mvT hZ (hw _ (List.mem_of_getElem? (i := 3) rfl))) (mvT hZ (hw _ (List.mem_of_getElem? (i := 4) rfl))) (mvT hZ (hw _ (List.mem_of_getElem? (i := 5) rfl))) (by decide) (backOf (W := 1) (rmI l Z a0 hw [] b1  h1 n0 z1 A1 F_blocks_b1 F_size_b1 g_b1) hZ (hw _ (List.mem_of_getElem? (i := 5) rfl)) (hw _ (List.mem_of_getElem? (i := 2) rfl)) (by decide) (by decide)) (g := (mkF m 4 #[.val (.long p1), .second, .val (.long p2), .second, .val (.long p3), .second, .val (.long p5), .second, .val (.int p4), .unset, .unset, .unset, .unset, .unset, .unset, .unset, .unset] [(.ref b1), (.ref b1)])) rfl (by rw [hml]; rfl) (Steps.refl _) (a := b1) (argsL := []) (rest := [(.ref b1)]) (lenOf own_pd0 rfl) rfl (by show 2 * 0 + _ ≤ _; exact Nat.le_of_eq rfl) (hb hby at_4) (fun _ _ => ⟨rfl, e1, (by decide : 1 + 1 ≤ _), (by decide : 2 + 1 ≤ _)⟩)
  dsimp only [Pt.U, Pt.locs, Pt.cells, Pt.slots] at X2 l2 y2 z2 st2 hQ2
  subst l2 y2 z2
  obtain ⟨h2, e2⟩ : ∃ z, T2.heap = z := ⟨_, rfl⟩
  rw [e2] at hQ2
  obtain ⟨rfl, N2q, Kc2, bl2, kb2, ge2, fb2, fs2, va2, ov2⟩ := hQ2
  have N2 := Fr.app N0 N2q
  have X2_14 := A1.keep Kc2
  have z2 : n0 ≤ h2.size := Nat.le_trans z1 Kc2.1
  have ne_b1_bl2 : b1 ≠ bl2 := Nat.ne_of_lt (Nat.lt_of_lt_of_le (A1).lt ge2)
  have g_bl2 : n0 ≤ bl2 := Nat.le_trans z1 ge2
  obtain ⟨cq3, kq3, q3a, q3b, q3c⟩ := isOf hZ e2 X2_14
  obtain ⟨_, _, ⟨T3, L3, k3, n3⟩, -, X3, ⟨Lc3, hQ3, l3, y3, z3⟩, st3⟩ := X2.virtualBack hx (y := (⟨"com/example/sameshape/sameshape/diff/LongColumn", "add", "(J)I"⟩ : MethodName)) (z := (⟨"com/example/sameshape/sameshape/diff/LongColumn", "add", "(J)I"⟩ : MethodName)) hown (mvT hZ (hw _ (List.mem_of_getElem? (i := 13) rfl))) (mvT hZ (hw _ (List.mem_of_getElem? (i := 14) rfl))) (notFace_of_selects (args := #[]) (mvT hZ (hw _ (List.mem_of_getElem? (i := 16) rfl)))) (mvT hZ (hw _ (List.mem_of_getElem? (i := 16) rfl))) (mvT hZ (hw _ (List.mem_of_getElem? (i := 15) rfl))) (by decide) (backOf (W := 0) (rmA l Z a0 hw [] b1 p1 bl2 kb2 h2 n0 z2 X2_14 g_b1 fb2 g_bl2 ov2 ne_b1_bl2 fs2 va2) hZ (hw _ (List.mem_of_getElem? (i := 17) rfl)) (hw _ (List.mem_of_getElem? (i := 2) rfl)) (by decide) (by decide)) q3a q3c (g := (mkF m 12 #[.val (.long p1), .second, .val (.long p2), .second, .val (.long p3), .second, .val (.long p5), .second, .val (.int p4), .val (.ref b1), .unset, .unset, .unset, .unset, .unset, .unset, .unset] [(.long p1), (.ref b1)])) rfl (by rw [hml]; rfl) (Steps.refl _) (argsL := [(.long p1)]) (rest := []) (lenOf own_pd1 rfl) rfl (by show 2 * 0 + _ ≤ _; exact Nat.le_of_eq rfl) (hb hby at_12) (fun _ _ => ⟨rfl, e2, (by decide : 2 + 1 ≤ _), (by decide : 3 + 128 ≤ _)⟩)
  dsimp only [Pt.U, Pt.locs, Pt.cells, Pt.slots] at X3 l3 y3 z3 st3 hQ3
  subst l3 y3 z3
  obtain ⟨h3, e3⟩ : ∃ z, T3.heap = z := ⟨_, rfl⟩
  rw [e3] at hQ3
  obtain ⟨rfl, N3q, Kc3, ch3, kc3, ge3, fb3, fs3, va3, vc3⟩ := hQ3
  have N3 := Fr.app N2 N3q
  have X3_26 := X2_14.keep Kc3
  have z3 : n0 ≤ h3.size := Nat.le_trans z2 Kc3.1
  have ne_b1_ch3 : b1 ≠ ch3 := Nat.ne_of_lt (Nat.lt_of_lt_of_le (X2_14).lt ge3)
  have ne_bl2_ch3 : bl2 ≠ ch3 := Nat.ne_of_lt (Nat.lt_of_lt_of_le (va2).lt ge3)
  have g_ch3 : n0 ≤ ch3 := Nat.le_trans z2 ge3
  obtain ⟨cq4, kq4, q4a, q4b, q4c⟩ := isOf hZ e3 X3_26
  obtain ⟨_, _, ⟨T4, L4, k4, n4⟩, -, X4, ⟨Lc4, hQ4, l4, y4, z4⟩, st4⟩ := X3.virtualBack hx (y := (⟨"com/example/sameshape/sameshape/diff/LongColumn", "add", "(J)I"⟩ : MethodName)) (z := (⟨"com/example/sameshape/sameshape/diff/LongColumn", "add", "(J)I"⟩ : MethodName)) hown (mvT hZ (hw _ (List.mem_of_getElem? (i := 13) rfl))) (mvT hZ (hw _ (List.mem_of_getElem? (i := 14) rfl))) (notFace_of_selects (args := #[]) (mvT hZ (hw _ (List.mem_of_getElem? (i := 16) rfl)))) (mvT hZ (hw _ (List.mem_of_getElem? (i := 16) rfl))) (mvT hZ (hw _ (List.mem_of_getElem? (i := 15) rfl))) (by decide) (backOf (W := 0) (rmB1 l Z a0 hw [] b1 p2 bl2 ch3 kb2 kc3 p1 h3 n0 z3 X3_26 g_b1 fb3 g_bl2 ov2 ne_b1_bl2 g_ch3 ne_b1_ch3 ne_bl2_ch3 fs3 va3 vc3) hZ (hw _ (List.mem_of_getElem? (i := 17) rfl)) (hw _ (List.mem_of_getElem? (i := 2) rfl)) (by decide) (by decide)) q4a q4c (g := (mkF m 19 #[.val (.long p1), .second, .val (.long p2), .second, .val (.long p3), .second, .val (.long p5), .second, .val (.int p4), .val (.ref b1), .unset, .unset, .unset, .unset, .unset, .unset, .unset] [(.long p2), (.ref b1)])) rfl (by rw [hml]; rfl) (Steps.refl _) (argsL := [(.long p2)]) (rest := []) (lenOf own_pd1 rfl) rfl (by show 2 * 0 + _ ≤ _; exact Nat.le_of_eq rfl) (hb hby at_19) (fun _ _ => ⟨rfl, e3, (by decide : 3 + 0 ≤ _), (by decide : 131 + 0 ≤ _)⟩)
  dsimp only [Pt.U, Pt.locs, Pt.cells, Pt.slots] at X4 l4 y4 z4 st4 hQ4
  subst l4 y4 z4
  obtain ⟨h4, e4⟩ : ∃ z, T4.heap = z := ⟨_, rfl⟩
  rw [e4] at hQ4
  obtain ⟨rfl, N4q, Kc4, fb4, fs4, vc4⟩ := hQ4
  have N4 := Fr.app N3 N4q
  have X4_39 := X3_26.keep Kc4
  have V4_40 := va3.keep Kc4 (ninS (Ne.symm ne_b1_bl2) (ninS ne_bl2_ch3 nin0))
  have z4 : n0 ≤ h4.size := Nat.le_trans z3 Kc4.1
  obtain ⟨cq5, kq5, q5a, q5b, q5c⟩ := isOf hZ e4 X4_39
  obtain ⟨_, _, ⟨T5, L5, k5, n5⟩, -, X5, ⟨Lc5, hQ5, l5, y5, z5⟩, st5⟩ := X4.virtualBack hx (y := (⟨"com/example/sameshape/sameshape/diff/LongColumn", "add", "(J)I"⟩ : MethodName)) (z := (⟨"com/example/sameshape/sameshape/diff/LongColumn", "add", "(J)I"⟩ : MethodName)) hown (mvT hZ (hw _ (List.mem_of_getElem? (i := 13) rfl))) (mvT hZ (hw _ (List.mem_of_getElem? (i := 14) rfl))) (notFace_of_selects (args := #[]) (mvT hZ (hw _ (List.mem_of_getElem? (i := 16) rfl)))) (mvT hZ (hw _ (List.mem_of_getElem? (i := 16) rfl))) (mvT hZ (hw _ (List.mem_of_getElem? (i := 15) rfl))) (by decide) (backOf (W := 0) (rmB2 l Z a0 hw [] b1 p3 bl2 ch3 kb2 kc3 p1 p2 h4 n0 z4 X4_39 g_b1 fb4 g_bl2 ov2 ne_b1_bl2 g_ch3 ne_b1_ch3 ne_bl2_ch3 fs4 V4_40 vc4) hZ (hw _ (List.mem_of_getElem? (i := 17) rfl)) (hw _ (List.mem_of_getElem? (i := 2) rfl)) (by decide) (by decide)) q5a q5c (g := (mkF m 27 #[.val (.long p1), .second, .val (.long p2), .second, .val (.long p3), .second, .val (.long p5), .second, .val (.int p4), .val (.ref b1), .unset, .unset, .unset, .unset, .unset, .unset, .unset] [(.long p3), (.ref b1)])) rfl (by rw [hml]; rfl) (Steps.refl _) (argsL := [(.long p3)]) (rest := []) (lenOf own_pd1 rfl) rfl (by show 2 * 0 + _ ≤ _; exact Nat.le_of_eq rfl) (hb hby at_27) (fun _ _ => ⟨rfl, e4, (by decide : 3 + 0 ≤ _), (by decide : 131 + 0 ≤ _)⟩)
  dsimp only [Pt.U, Pt.locs, Pt.cells, Pt.slots] at X5 l5 y5 z5 st5 hQ5
  subst l5 y5 z5
  obtain ⟨h5, e5⟩ : ∃ z, T5.heap = z := ⟨_, rfl⟩
  rw [e5] at hQ5
  obtain ⟨rfl, N5q, Kc5, fb5, fs5, vc5⟩ := hQ5
  have N5 := Fr.app N4 N5q
  have X5_50 := X4_39.keep Kc5
  have V5_51 := V4_40.keep Kc5 (ninS (Ne.symm ne_b1_bl2) (ninS ne_bl2_ch3 nin0))
  have z5 : n0 ≤ h5.size := Nat.le_trans z4 Kc5.1
  have hk := own_k p4
  have pre6 : ∀ t, Steps p.tables e below (T5.setTop (mkF m 38 #[.val (.long p1), .second, .val (.long p2), .second, .val (.long p3), .second, .val (.long p5), .second, .val (.int p4), .val (.ref b1), .unset, .unset, .unset, .unset, .unset, .unset, .unset] [(.int ((p4 &&& (2147483647 : Int32)) % (3 : Int32)))])) t → Steps p.tables e below (s₁.setTop (entryFrame m #[(.long p1), (.long p2), (.long p3), (.long p5), (.int p4)] maxLocals)) t := fun t k => pre0 t (by
    show Steps p.tables e below (s₁.setTop (mkF m 0 #[.val (.long p1), .second, .val (.long p2), .second, .val (.long p3), .second, .val (.long p5), .second, .val (.int p4), .unset, .unset, .unset, .unset, .unset, .unset, .unset, .unset] [])) _
    refine st1 _ ?_
    show Steps p.tables e below (T1.setTop (mkF m 3 #[.val (.long p1), .second, .val (.long p2), .second, .val (.long p3), .second, .val (.long p5), .second, .val (.int p4), .unset, .unset, .unset, .unset, .unset, .unset, .unset, .unset] [(.ref b1)])) _
    refine XS.dup X1.here hx rfl (hb hby at_3) rfl rfl ?_
    show Steps p.tables e below (T1.setTop (mkF m 4 #[.val (.long p1), .second, .val (.long p2), .second, .val (.long p3), .second, .val (.long p5), .second, .val (.int p4), .unset, .unset, .unset, .unset, .unset, .unset, .unset, .unset] [(.ref b1), (.ref b1)])) _
    refine st2.trans ?_
    show Steps p.tables e below (T2.setTop (mkF m 7 #[.val (.long p1), .second, .val (.long p2), .second, .val (.long p3), .second, .val (.long p5), .second, .val (.int p4), .unset, .unset, .unset, .unset, .unset, .unset, .unset, .unset] [(.ref b1)])) _
    refine XS.astore X2.here hx rfl (hb hby at_7) rfl rfl (l' := #[.val (.long p1), .second, .val (.long p2), .second, .val (.long p3), .second, .val (.long p5), .second, .val (.int p4), .val (.ref b1), .unset, .unset, .unset, .unset, .unset, .unset, .unset]) rfl ?_
    show Steps p.tables e below (T2.setTop (mkF m 9 #[.val (.long p1), .second, .val (.long p2), .second, .val (.long p3), .second, .val (.long p5), .second, .val (.int p4), .val (.ref b1), .unset, .unset, .unset, .unset, .unset, .unset, .unset] [])) _
    refine XS.aload X2.here hx rfl (hb hby at_9) rfl rfl ?_
    show Steps p.tables e below (T2.setTop (mkF m 11 #[.val (.long p1), .second, .val (.long p2), .second, .val (.long p3), .second, .val (.long p5), .second, .val (.int p4), .val (.ref b1), .unset, .unset, .unset, .unset, .unset, .unset, .unset] [(.ref b1)])) _
    refine XS.lloadN X2.here hx rfl (hb hby at_11) rfl ?_
    show Steps p.tables e below (T2.setTop (mkF m 12 #[.val (.long p1), .second, .val (.long p2), .second, .val (.long p3), .second, .val (.long p5), .second, .val (.int p4), .val (.ref b1), .unset, .unset, .unset, .unset, .unset, .unset, .unset] [(.long p1), (.ref b1)])) _
    refine st3.trans ?_
    show Steps p.tables e below (T3.setTop (mkF m 15 #[.val (.long p1), .second, .val (.long p2), .second, .val (.long p3), .second, .val (.long p5), .second, .val (.int p4), .val (.ref b1), .unset, .unset, .unset, .unset, .unset, .unset, .unset] [(.int (0 : Int32))])) _
    refine XS.pop X3.here hx rfl (hb hby at_15) rfl rfl ?_
    show Steps p.tables e below (T3.setTop (mkF m 16 #[.val (.long p1), .second, .val (.long p2), .second, .val (.long p3), .second, .val (.long p5), .second, .val (.int p4), .val (.ref b1), .unset, .unset, .unset, .unset, .unset, .unset, .unset] [])) _
    refine XS.aload X3.here hx rfl (hb hby at_16) rfl rfl ?_
    show Steps p.tables e below (T3.setTop (mkF m 18 #[.val (.long p1), .second, .val (.long p2), .second, .val (.long p3), .second, .val (.long p5), .second, .val (.int p4), .val (.ref b1), .unset, .unset, .unset, .unset, .unset, .unset, .unset] [(.ref b1)])) _
    refine XS.lloadN X3.here hx rfl (hb hby at_18) rfl ?_
    show Steps p.tables e below (T3.setTop (mkF m 19 #[.val (.long p1), .second, .val (.long p2), .second, .val (.long p3), .second, .val (.long p5), .second, .val (.int p4), .val (.ref b1), .unset, .unset, .unset, .unset, .unset, .unset, .unset] [(.long p2), (.ref b1)])) _
    refine st4.trans ?_
    show Steps p.tables e below (T4.setTop (mkF m 22 #[.val (.long p1), .second, .val (.long p2), .second, .val (.long p3), .second, .val (.long p5), .second, .val (.int p4), .val (.ref b1), .unset, .unset, .unset, .unset, .unset, .unset, .unset] [(.int (1 : Int32))])) _
    refine XS.pop X4.here hx rfl (hb hby at_22) rfl rfl ?_
    show Steps p.tables e below (T4.setTop (mkF m 23 #[.val (.long p1), .second, .val (.long p2), .second, .val (.long p3), .second, .val (.long p5), .second, .val (.int p4), .val (.ref b1), .unset, .unset, .unset, .unset, .unset, .unset, .unset] [])) _
    refine XS.aload X4.here hx rfl (hb hby at_23) rfl rfl ?_
    show Steps p.tables e below (T4.setTop (mkF m 25 #[.val (.long p1), .second, .val (.long p2), .second, .val (.long p3), .second, .val (.long p5), .second, .val (.int p4), .val (.ref b1), .unset, .unset, .unset, .unset, .unset, .unset, .unset] [(.ref b1)])) _
    refine XS.lload X4.here hx rfl (hb hby at_25) rfl ?_
    show Steps p.tables e below (T4.setTop (mkF m 27 #[.val (.long p1), .second, .val (.long p2), .second, .val (.long p3), .second, .val (.long p5), .second, .val (.int p4), .val (.ref b1), .unset, .unset, .unset, .unset, .unset, .unset, .unset] [(.long p3), (.ref b1)])) _
    refine st5.trans ?_
    show Steps p.tables e below (T5.setTop (mkF m 30 #[.val (.long p1), .second, .val (.long p2), .second, .val (.long p3), .second, .val (.long p5), .second, .val (.int p4), .val (.ref b1), .unset, .unset, .unset, .unset, .unset, .unset, .unset] [(.int (2 : Int32))])) _
    refine XS.pop X5.here hx rfl (hb hby at_30) rfl rfl ?_
    show Steps p.tables e below (T5.setTop (mkF m 31 #[.val (.long p1), .second, .val (.long p2), .second, .val (.long p3), .second, .val (.long p5), .second, .val (.int p4), .val (.ref b1), .unset, .unset, .unset, .unset, .unset, .unset, .unset] [])) _
    refine XS.iload X5.here hx rfl (hb hby at_31) rfl ?_
    show Steps p.tables e below (T5.setTop (mkF m 33 #[.val (.long p1), .second, .val (.long p2), .second, .val (.long p3), .second, .val (.long p5), .second, .val (.int p4), .val (.ref b1), .unset, .unset, .unset, .unset, .unset, .unset, .unset] [(.int p4)])) _
    refine X5.ldcInt hx hown (mvT hZ (hw _ (List.mem_of_getElem? (i := 23) rfl))) (g := (mkF m 33 #[.val (.long p1), .second, .val (.long p2), .second, .val (.long p3), .second, .val (.long p5), .second, .val (.int p4), .val (.ref b1), .unset, .unset, .unset, .unset, .unset, .unset, .unset] [(.int p4)])) rfl (hb hby at_33) _ ?_
    show Steps p.tables e below (T5.setTop (mkF m 35 #[.val (.long p1), .second, .val (.long p2), .second, .val (.long p3), .second, .val (.long p5), .second, .val (.int p4), .val (.ref b1), .unset, .unset, .unset, .unset, .unset, .unset, .unset] [(.int (2147483647 : Int32)), (.int p4)])) _
    refine XS.iand X5.here hx rfl (hb hby at_35) rfl ?_
    show Steps p.tables e below (T5.setTop (mkF m 36 #[.val (.long p1), .second, .val (.long p2), .second, .val (.long p3), .second, .val (.long p5), .second, .val (.int p4), .val (.ref b1), .unset, .unset, .unset, .unset, .unset, .unset, .unset] [(.int (p4 &&& (2147483647 : Int32)))])) _
    refine XS.iconst X5.here hx rfl (hb hby at_36) ?_
    show Steps p.tables e below (T5.setTop (mkF m 37 #[.val (.long p1), .second, .val (.long p2), .second, .val (.long p3), .second, .val (.long p5), .second, .val (.int p4), .val (.ref b1), .unset, .unset, .unset, .unset, .unset, .unset, .unset] [(.int (3 : Int32)), (.int (p4 &&& (2147483647 : Int32)))])) _
    refine iremM X5 hx rfl (hb hby at_37) rfl (by decide) ?_
    exact k)
  obtain ⟨k0, h_k0⟩ : ∃ z : Int32, z = ((p4 &&& (2147483647 : Int32)) % (3 : Int32)) := ⟨_, rfl⟩
  rw [← h_k0] at pre6
  rw [← h_k0] at hk
  rcases hk with hk | hk | hk
  · subst hk
    obtain ⟨cq7, kq7, q7a, q7b, q7c⟩ := isOf hZ e5 X5_50
    obtain ⟨_, _, ⟨T7, L7, k7, n7⟩, -, X7, ⟨Lc7, hQ7, l7, y7, z7⟩, st7⟩ := X5.virtualBack hx (y := (⟨"com/example/sameshape/sameshape/diff/LongColumn", "set", "(IJ)V"⟩ : MethodName)) (z := (⟨"com/example/sameshape/sameshape/diff/LongColumn", "set", "(IJ)V"⟩ : MethodName)) hown (mvT hZ (hw _ (List.mem_of_getElem? (i := 24) rfl))) (mvT hZ (hw _ (List.mem_of_getElem? (i := 25) rfl))) (notFace_of_selects (args := #[]) (mvT hZ (hw _ (List.mem_of_getElem? (i := 27) rfl)))) (mvT hZ (hw _ (List.mem_of_getElem? (i := 27) rfl))) (mvT hZ (hw _ (List.mem_of_getElem? (i := 26) rfl))) (by decide) (backOf (W := 0) (rmS0 l Z a0 hw []  b1 p5 bl2 ch3 kb2 kc3 p1 p2 p3 h5 n0 z5 X5_50 g_b1 fb5 g_bl2 ov2 ne_b1_bl2 g_ch3 ne_b1_ch3 ne_bl2_ch3 V5_51 vc5) hZ (hw _ (List.mem_of_getElem? (i := 28) rfl)) (hw _ (List.mem_of_getElem? (i := 2) rfl)) (by decide) (by decide)) q7a q7c (g := (mkF m 46 #[.val (.long p1), .second, .val (.long p2), .second, .val (.long p3), .second, .val (.long p5), .second, .val (.int p4), .val (.ref b1), .val (.int (0 : Int32)), .unset, .unset, .unset, .unset, .unset, .unset] [(.long p5), (.int (0 : Int32)), (.ref b1)])) rfl (by rw [hml]; rfl) (Steps.refl _) (argsL := [(.int (0 : Int32)), (.long p5)]) (rest := []) (lenOf own_pd2 rfl) rfl (by show 2 * 0 + _ ≤ _; exact Nat.le_of_eq rfl) (hb hby at_46) (fun _ _ => ⟨rfl, e5, (by decide : 3 + 0 ≤ _), (by decide : 131 + 0 ≤ _)⟩)
    dsimp only [Pt.U, Pt.locs, Pt.cells, Pt.slots] at X7 l7 y7 z7 st7 hQ7
    subst l7 y7 z7
    obtain ⟨h7, e7⟩ : ∃ z, T7.heap = z := ⟨_, rfl⟩
    rw [e7] at hQ7
    obtain ⟨rfl, N7q, Kc7, vc7⟩ := hQ7
    have N7 := Fr.app N5 N7q
    have F7_111 := fb5.keep Kc7 (ninS ne_b1_ch3 nin0)
    have F7_112 := fs5.keep Kc7 (ninS ne_b1_ch3 nin0)
    have X7_113 := X5_50.keep Kc7
    have V7_114 := V5_51.keep Kc7 (ninS ne_bl2_ch3 nin0)
    have z7 : n0 ≤ h7.size := Nat.le_trans z5 Kc7.1
    obtain ⟨cq8, kq8, q8a, q8b, q8c⟩ := isOf hZ e7 X7_113
    obtain ⟨_, _, ⟨T8, L8, k8, n8⟩, -, X8, ⟨Lc8, hQ8, l8, y8, z8⟩, st8⟩ := X7.virtualBack hx (y := (⟨"com/example/sameshape/sameshape/diff/LongColumn", "get", "(I)J"⟩ : MethodName)) (z := (⟨"com/example/sameshape/sameshape/diff/LongColumn", "get", "(I)J"⟩ : MethodName)) hown (mvT hZ (hw _ (List.mem_of_getElem? (i := 29) rfl))) (mvT hZ (hw _ (List.mem_of_getElem? (i := 30) rfl))) (notFace_of_selects (args := #[]) (mvT hZ (hw _ (List.mem_of_getElem? (i := 32) rfl)))) (mvT hZ (hw _ (List.mem_of_getElem? (i := 32) rfl))) (mvT hZ (hw _ (List.mem_of_getElem? (i := 31) rfl))) (by decide) (backOf (W := 0) (rmG0 l Z a0 hw []  b1 bl2 ch3 kb2 kc3 p5 p2 p3 h7 n0 z7 X7_113 g_b1 F7_111 g_bl2 ov2 ne_b1_bl2 g_ch3 ne_b1_ch3 ne_bl2_ch3 V7_114 vc7) hZ (hw _ (List.mem_of_getElem? (i := 33) rfl)) (hw _ (List.mem_of_getElem? (i := 2) rfl)) (by decide) (by decide)) q8a q8c (g := (mkF m 94 #[.val (.long p1), .second, .val (.long p2), .second, .val (.long p3), .second, .val (.long p5), .second, .val (.int p4), .val (.ref b1), .val (.int (0 : Int32)), .val (.long p5), .second, .val (.long p2), .second, .val (.long p3), .second] [(.int (0 : Int32)), (.ref b1)])) rfl (by rw [hml]; rfl) (Steps.refl _) (argsL := [(.int (0 : Int32))]) (rest := []) (lenOf own_pd3 rfl) rfl (by show 2 * 0 + _ ≤ _; exact Nat.le_of_eq rfl) (hb hby at_94) (fun _ _ => ⟨rfl, e7, (by decide : 3 + 0 ≤ _), (by decide : 131 + 0 ≤ _)⟩)
    dsimp only [Pt.U, Pt.locs, Pt.cells, Pt.slots] at X8 l8 y8 z8 st8 hQ8
    subst l8 y8 z8
    obtain ⟨rfl, N8q, e8⟩ := hQ8
    have N8 := Fr.app N7 N8q
    obtain ⟨cq9, kq9, q9a, q9b, q9c⟩ := isOf hZ e8 X7_113
    obtain ⟨_, _, ⟨T9, L9, k9, n9⟩, -, X9, ⟨Lc9, hQ9, l9, y9, z9⟩, st9⟩ := X8.virtualBack hx (y := (⟨"com/example/sameshape/sameshape/diff/LongColumn", "get", "(I)J"⟩ : MethodName)) (z := (⟨"com/example/sameshape/sameshape/diff/LongColumn", "get", "(I)J"⟩ : MethodName)) hown (mvT hZ (hw _ (List.mem_of_getElem? (i := 29) rfl))) (mvT hZ (hw _ (List.mem_of_getElem? (i := 30) rfl))) (notFace_of_selects (args := #[]) (mvT hZ (hw _ (List.mem_of_getElem? (i := 32) rfl)))) (mvT hZ (hw _ (List.mem_of_getElem? (i := 32) rfl))) (mvT hZ (hw _ (List.mem_of_getElem? (i := 31) rfl))) (by decide) (backOf (W := 0) (rmG1 l Z a0 hw []  b1 bl2 ch3 kb2 kc3 p5 p2 p3 h7 n0 z7 X7_113 g_b1 F7_111 g_bl2 ov2 ne_b1_bl2 g_ch3 ne_b1_ch3 ne_bl2_ch3 V7_114 vc7) hZ (hw _ (List.mem_of_getElem? (i := 33) rfl)) (hw _ (List.mem_of_getElem? (i := 2) rfl)) (by decide) (by decide)) q9a q9c (g := (mkF m 106 #[.val (.long p1), .second, .val (.long p2), .second, .val (.long p3), .second, .val (.long p5), .second, .val (.int p4), .val (.ref b1), .val (.int (0 : Int32)), .val (.long p5), .second, .val (.long p2), .second, .val (.long p3), .second] [(.int (1 : Int32)), (.ref b1)])) rfl (by rw [hml]; rfl) (Steps.refl _) (argsL := [(.int (1 : Int32))]) (rest := []) (lenOf own_pd3 rfl) rfl (by show 2 * 0 + _ ≤ _; exact Nat.le_of_eq rfl) (hb hby at_106) (fun _ _ => ⟨rfl, e8, (by decide : 3 + 0 ≤ _), (by decide : 131 + 0 ≤ _)⟩)
    dsimp only [Pt.U, Pt.locs, Pt.cells, Pt.slots] at X9 l9 y9 z9 st9 hQ9
    subst l9 y9 z9
    obtain ⟨rfl, N9q, e9⟩ := hQ9
    have N9 := Fr.app N8 N9q
    obtain ⟨cq10, kq10, q10a, q10b, q10c⟩ := isOf hZ e9 X7_113
    obtain ⟨_, _, ⟨T10, L10, k10, n10⟩, -, X10, ⟨Lc10, hQ10, l10, y10, z10⟩, st10⟩ := X9.virtualBack hx (y := (⟨"com/example/sameshape/sameshape/diff/LongColumn", "get", "(I)J"⟩ : MethodName)) (z := (⟨"com/example/sameshape/sameshape/diff/LongColumn", "get", "(I)J"⟩ : MethodName)) hown (mvT hZ (hw _ (List.mem_of_getElem? (i := 29) rfl))) (mvT hZ (hw _ (List.mem_of_getElem? (i := 30) rfl))) (notFace_of_selects (args := #[]) (mvT hZ (hw _ (List.mem_of_getElem? (i := 32) rfl)))) (mvT hZ (hw _ (List.mem_of_getElem? (i := 32) rfl))) (mvT hZ (hw _ (List.mem_of_getElem? (i := 31) rfl))) (by decide) (backOf (W := 0) (rmG2 l Z a0 hw []  b1 bl2 ch3 kb2 kc3 p5 p2 p3 h7 n0 z7 X7_113 g_b1 F7_111 g_bl2 ov2 ne_b1_bl2 g_ch3 ne_b1_ch3 ne_bl2_ch3 V7_114 vc7) hZ (hw _ (List.mem_of_getElem? (i := 33) rfl)) (hw _ (List.mem_of_getElem? (i := 2) rfl)) (by decide) (by decide)) q10a q10c (g := (mkF m 118 #[.val (.long p1), .second, .val (.long p2), .second, .val (.long p3), .second, .val (.long p5), .second, .val (.int p4), .val (.ref b1), .val (.int (0 : Int32)), .val (.long p5), .second, .val (.long p2), .second, .val (.long p3), .second] [(.int (2 : Int32)), (.ref b1)])) rfl (by rw [hml]; rfl) (Steps.refl _) (argsL := [(.int (2 : Int32))]) (rest := []) (lenOf own_pd3 rfl) rfl (by show 2 * 0 + _ ≤ _; exact Nat.le_of_eq rfl) (hb hby at_118) (fun _ _ => ⟨rfl, e9, (by decide : 3 + 0 ≤ _), (by decide : 131 + 0 ≤ _)⟩)
    dsimp only [Pt.U, Pt.locs, Pt.cells, Pt.slots] at X10 l10 y10 z10 st10 hQ10
    subst l10 y10 z10
    obtain ⟨rfl, N10q, e10⟩ := hQ10
    have N10 := Fr.app N9 N10q
    have pre11 : ∀ t, Steps p.tables e below (T10.setTop (mkF m 132 #[.val (.long p1), .second, .val (.long p2), .second, .val (.long p3), .second, .val (.long p5), .second, .val (.int p4), .val (.ref b1), .val (.int (0 : Int32)), .val (.long p5), .second, .val (.long p2), .second, .val (.long p3), .second] [(.int (1 : Int32))])) t → Steps p.tables e below (s₁.setTop (entryFrame m #[(.long p1), (.long p2), (.long p3), (.long p5), (.int p4)] maxLocals)) t := fun t k => pre6 t (by
      show Steps p.tables e below (T5.setTop (mkF m 38 #[.val (.long p1), .second, .val (.long p2), .second, .val (.long p3), .second, .val (.long p5), .second, .val (.int p4), .val (.ref b1), .unset, .unset, .unset, .unset, .unset, .unset, .unset] [(.int (0 : Int32))])) _
      refine XS.istore X5.here hx rfl (hb hby at_38) rfl (l' := #[.val (.long p1), .second, .val (.long p2), .second, .val (.long p3), .second, .val (.long p5), .second, .val (.int p4), .val (.ref b1), .val (.int (0 : Int32)), .unset, .unset, .unset, .unset, .unset, .unset]) rfl ?_
      show Steps p.tables e below (T5.setTop (mkF m 40 #[.val (.long p1), .second, .val (.long p2), .second, .val (.long p3), .second, .val (.long p5), .second, .val (.int p4), .val (.ref b1), .val (.int (0 : Int32)), .unset, .unset, .unset, .unset, .unset, .unset] [])) _
      refine XS.aload X5.here hx rfl (hb hby at_40) rfl rfl ?_
      show Steps p.tables e below (T5.setTop (mkF m 42 #[.val (.long p1), .second, .val (.long p2), .second, .val (.long p3), .second, .val (.long p5), .second, .val (.int p4), .val (.ref b1), .val (.int (0 : Int32)), .unset, .unset, .unset, .unset, .unset, .unset] [(.ref b1)])) _
      refine XS.iload X5.here hx rfl (hb hby at_42) rfl ?_
      show Steps p.tables e below (T5.setTop (mkF m 44 #[.val (.long p1), .second, .val (.long p2), .second, .val (.long p3), .second, .val (.long p5), .second, .val (.int p4), .val (.ref b1), .val (.int (0 : Int32)), .unset, .unset, .unset, .unset, .unset, .unset] [(.int (0 : Int32)), (.ref b1)])) _
      refine XS.lload X5.here hx rfl (hb hby at_44) rfl ?_
      show Steps p.tables e below (T5.setTop (mkF m 46 #[.val (.long p1), .second, .val (.long p2), .second, .val (.long p3), .second, .val (.long p5), .second, .val (.int p4), .val (.ref b1), .val (.int (0 : Int32)), .unset, .unset, .unset, .unset, .unset, .unset] [(.long p5), (.int (0 : Int32)), (.ref b1)])) _
      refine st7.trans ?_
      show Steps p.tables e below (T7.setTop (mkF m 49 #[.val (.long p1), .second, .val (.long p2), .second, .val (.long p3), .second, .val (.long p5), .second, .val (.int p4), .val (.ref b1), .val (.int (0 : Int32)), .unset, .unset, .unset, .unset, .unset, .unset] [])) _
      refine XS.iload X7.here hx rfl (hb hby at_49) rfl ?_
      show Steps p.tables e below (T7.setTop (mkF m 51 #[.val (.long p1), .second, .val (.long p2), .second, .val (.long p3), .second, .val (.long p5), .second, .val (.int p4), .val (.ref b1), .val (.int (0 : Int32)), .unset, .unset, .unset, .unset, .unset, .unset] [(.int (0 : Int32))])) _
      refine XS.ifNo X7.here hx rfl (hb hby at_51) rfl ((if0 _ _).trans (teq ((by decide) : (0 : Int32) = (0 : Int32))).2) ?_
      show Steps p.tables e below (T7.setTop (mkF m 54 #[.val (.long p1), .second, .val (.long p2), .second, .val (.long p3), .second, .val (.long p5), .second, .val (.int p4), .val (.ref b1), .val (.int (0 : Int32)), .unset, .unset, .unset, .unset, .unset, .unset] [])) _
      refine XS.lload X7.here hx rfl (hb hby at_54) rfl ?_
      show Steps p.tables e below (T7.setTop (mkF m 56 #[.val (.long p1), .second, .val (.long p2), .second, .val (.long p3), .second, .val (.long p5), .second, .val (.int p4), .val (.ref b1), .val (.int (0 : Int32)), .unset, .unset, .unset, .unset, .unset, .unset] [(.long p5)])) _
      refine XS.goto X7.here hx rfl (pc0 := 56) (pc' := 60) rfl (hb hby at_56) (by decide) (by decide) ?_
      show Steps p.tables e below (T7.setTop (mkF m 60 #[.val (.long p1), .second, .val (.long p2), .second, .val (.long p3), .second, .val (.long p5), .second, .val (.int p4), .val (.ref b1), .val (.int (0 : Int32)), .unset, .unset, .unset, .unset, .unset, .unset] [(.long p5)])) _
      refine XS.lstore X7.here hx rfl (hb hby at_60) rfl (l' := #[.val (.long p1), .second, .val (.long p2), .second, .val (.long p3), .second, .val (.long p5), .second, .val (.int p4), .val (.ref b1), .val (.int (0 : Int32)), .val (.long p5), .second, .unset, .unset, .unset, .unset]) rfl ?_
      show Steps p.tables e below (T7.setTop (mkF m 62 #[.val (.long p1), .second, .val (.long p2), .second, .val (.long p3), .second, .val (.long p5), .second, .val (.int p4), .val (.ref b1), .val (.int (0 : Int32)), .val (.long p5), .second, .unset, .unset, .unset, .unset] [])) _
      refine XS.iload X7.here hx rfl (hb hby at_62) rfl ?_
      show Steps p.tables e below (T7.setTop (mkF m 64 #[.val (.long p1), .second, .val (.long p2), .second, .val (.long p3), .second, .val (.long p5), .second, .val (.int p4), .val (.ref b1), .val (.int (0 : Int32)), .val (.long p5), .second, .unset, .unset, .unset, .unset] [(.int (0 : Int32))])) _
      refine XS.iconst X7.here hx rfl (hb hby at_64) ?_
      show Steps p.tables e below (T7.setTop (mkF m 65 #[.val (.long p1), .second, .val (.long p2), .second, .val (.long p3), .second, .val (.long p5), .second, .val (.int p4), .val (.ref b1), .val (.int (0 : Int32)), .val (.long p5), .second, .unset, .unset, .unset, .unset] [(.int (1 : Int32)), (.int (0 : Int32))])) _
      refine XS.icmpYes X7.here hx rfl (pc0 := 65) (pc' := 73) rfl (hb hby at_65) rfl (feq ((by decide) : ¬ ((0 : Int32) = (1 : Int32)))).2 (by decide) (by decide) ?_
      show Steps p.tables e below (T7.setTop (mkF m 73 #[.val (.long p1), .second, .val (.long p2), .second, .val (.long p3), .second, .val (.long p5), .second, .val (.int p4), .val (.ref b1), .val (.int (0 : Int32)), .val (.long p5), .second, .unset, .unset, .unset, .unset] [])) _
      refine XS.lloadN X7.here hx rfl (hb hby at_73) rfl ?_
      show Steps p.tables e below (T7.setTop (mkF m 74 #[.val (.long p1), .second, .val (.long p2), .second, .val (.long p3), .second, .val (.long p5), .second, .val (.int p4), .val (.ref b1), .val (.int (0 : Int32)), .val (.long p5), .second, .unset, .unset, .unset, .unset] [(.long p2)])) _
      refine XS.lstore X7.here hx rfl (hb hby at_74) rfl (l' := #[.val (.long p1), .second, .val (.long p2), .second, .val (.long p3), .second, .val (.long p5), .second, .val (.int p4), .val (.ref b1), .val (.int (0 : Int32)), .val (.long p5), .second, .val (.long p2), .second, .unset, .unset]) rfl ?_
      show Steps p.tables e below (T7.setTop (mkF m 76 #[.val (.long p1), .second, .val (.long p2), .second, .val (.long p3), .second, .val (.long p5), .second, .val (.int p4), .val (.ref b1), .val (.int (0 : Int32)), .val (.long p5), .second, .val (.long p2), .second, .unset, .unset] [])) _
      refine XS.iload X7.here hx rfl (hb hby at_76) rfl ?_
      show Steps p.tables e below (T7.setTop (mkF m 78 #[.val (.long p1), .second, .val (.long p2), .second, .val (.long p3), .second, .val (.long p5), .second, .val (.int p4), .val (.ref b1), .val (.int (0 : Int32)), .val (.long p5), .second, .val (.long p2), .second, .unset, .unset] [(.int (0 : Int32))])) _
      refine XS.iconst X7.here hx rfl (hb hby at_78) ?_
      show Steps p.tables e below (T7.setTop (mkF m 79 #[.val (.long p1), .second, .val (.long p2), .second, .val (.long p3), .second, .val (.long p5), .second, .val (.int p4), .val (.ref b1), .val (.int (0 : Int32)), .val (.long p5), .second, .val (.long p2), .second, .unset, .unset] [(.int (2 : Int32)), (.int (0 : Int32))])) _
      refine XS.icmpYes X7.here hx rfl (pc0 := 79) (pc' := 87) rfl (hb hby at_79) rfl (feq ((by decide) : ¬ ((0 : Int32) = (2 : Int32)))).2 (by decide) (by decide) ?_
      show Steps p.tables e below (T7.setTop (mkF m 87 #[.val (.long p1), .second, .val (.long p2), .second, .val (.long p3), .second, .val (.long p5), .second, .val (.int p4), .val (.ref b1), .val (.int (0 : Int32)), .val (.long p5), .second, .val (.long p2), .second, .unset, .unset] [])) _
      refine XS.lload X7.here hx rfl (hb hby at_87) rfl ?_
      show Steps p.tables e below (T7.setTop (mkF m 89 #[.val (.long p1), .second, .val (.long p2), .second, .val (.long p3), .second, .val (.long p5), .second, .val (.int p4), .val (.ref b1), .val (.int (0 : Int32)), .val (.long p5), .second, .val (.long p2), .second, .unset, .unset] [(.long p3)])) _
      refine XS.lstore X7.here hx rfl (hb hby at_89) rfl (l' := #[.val (.long p1), .second, .val (.long p2), .second, .val (.long p3), .second, .val (.long p5), .second, .val (.int p4), .val (.ref b1), .val (.int (0 : Int32)), .val (.long p5), .second, .val (.long p2), .second, .val (.long p3), .second]) rfl ?_
      show Steps p.tables e below (T7.setTop (mkF m 91 #[.val (.long p1), .second, .val (.long p2), .second, .val (.long p3), .second, .val (.long p5), .second, .val (.int p4), .val (.ref b1), .val (.int (0 : Int32)), .val (.long p5), .second, .val (.long p2), .second, .val (.long p3), .second] [])) _
      refine XS.aload X7.here hx rfl (hb hby at_91) rfl rfl ?_
      show Steps p.tables e below (T7.setTop (mkF m 93 #[.val (.long p1), .second, .val (.long p2), .second, .val (.long p3), .second, .val (.long p5), .second, .val (.int p4), .val (.ref b1), .val (.int (0 : Int32)), .val (.long p5), .second, .val (.long p2), .second, .val (.long p3), .second] [(.ref b1)])) _
      refine XS.iconst X7.here hx rfl (hb hby at_93) ?_
      show Steps p.tables e below (T7.setTop (mkF m 94 #[.val (.long p1), .second, .val (.long p2), .second, .val (.long p3), .second, .val (.long p5), .second, .val (.int p4), .val (.ref b1), .val (.int (0 : Int32)), .val (.long p5), .second, .val (.long p2), .second, .val (.long p3), .second] [(.int (0 : Int32)), (.ref b1)])) _
      refine st8.trans ?_
      show Steps p.tables e below (T8.setTop (mkF m 97 #[.val (.long p1), .second, .val (.long p2), .second, .val (.long p3), .second, .val (.long p5), .second, .val (.int p4), .val (.ref b1), .val (.int (0 : Int32)), .val (.long p5), .second, .val (.long p2), .second, .val (.long p3), .second] [(.long p5)])) _
      refine XS.lload X8.here hx rfl (hb hby at_97) rfl ?_
      show Steps p.tables e below (T8.setTop (mkF m 99 #[.val (.long p1), .second, .val (.long p2), .second, .val (.long p3), .second, .val (.long p5), .second, .val (.int p4), .val (.ref b1), .val (.int (0 : Int32)), .val (.long p5), .second, .val (.long p2), .second, .val (.long p3), .second] [(.long p5), (.long p5)])) _
      refine XS.lcmp X8.here hx rfl (hb hby at_99) rfl ?_
      show Steps p.tables e below (T8.setTop (mkF m 100 #[.val (.long p1), .second, .val (.long p2), .second, .val (.long p3), .second, .val (.long p5), .second, .val (.int p4), .val (.ref b1), .val (.int (0 : Int32)), .val (.long p5), .second, .val (.long p2), .second, .val (.long p3), .second] [(.int (lcmpW p5 p5))])) _
      refine XS.ifNo X8.here hx rfl (hb hby at_100) rfl ((if0 _ _).trans (teq ((own_lc0 rfl) : (lcmpW p5 p5) = (0 : Int32))).2) ?_
      show Steps p.tables e below (T8.setTop (mkF m 103 #[.val (.long p1), .second, .val (.long p2), .second, .val (.long p3), .second, .val (.long p5), .second, .val (.int p4), .val (.ref b1), .val (.int (0 : Int32)), .val (.long p5), .second, .val (.long p2), .second, .val (.long p3), .second] [])) _
      refine XS.aload X8.here hx rfl (hb hby at_103) rfl rfl ?_
      show Steps p.tables e below (T8.setTop (mkF m 105 #[.val (.long p1), .second, .val (.long p2), .second, .val (.long p3), .second, .val (.long p5), .second, .val (.int p4), .val (.ref b1), .val (.int (0 : Int32)), .val (.long p5), .second, .val (.long p2), .second, .val (.long p3), .second] [(.ref b1)])) _
      refine XS.iconst X8.here hx rfl (hb hby at_105) ?_
      show Steps p.tables e below (T8.setTop (mkF m 106 #[.val (.long p1), .second, .val (.long p2), .second, .val (.long p3), .second, .val (.long p5), .second, .val (.int p4), .val (.ref b1), .val (.int (0 : Int32)), .val (.long p5), .second, .val (.long p2), .second, .val (.long p3), .second] [(.int (1 : Int32)), (.ref b1)])) _
      refine st9.trans ?_
      show Steps p.tables e below (T9.setTop (mkF m 109 #[.val (.long p1), .second, .val (.long p2), .second, .val (.long p3), .second, .val (.long p5), .second, .val (.int p4), .val (.ref b1), .val (.int (0 : Int32)), .val (.long p5), .second, .val (.long p2), .second, .val (.long p3), .second] [(.long p2)])) _
      refine XS.lload X9.here hx rfl (hb hby at_109) rfl ?_
      show Steps p.tables e below (T9.setTop (mkF m 111 #[.val (.long p1), .second, .val (.long p2), .second, .val (.long p3), .second, .val (.long p5), .second, .val (.int p4), .val (.ref b1), .val (.int (0 : Int32)), .val (.long p5), .second, .val (.long p2), .second, .val (.long p3), .second] [(.long p2), (.long p2)])) _
      refine XS.lcmp X9.here hx rfl (hb hby at_111) rfl ?_
      show Steps p.tables e below (T9.setTop (mkF m 112 #[.val (.long p1), .second, .val (.long p2), .second, .val (.long p3), .second, .val (.long p5), .second, .val (.int p4), .val (.ref b1), .val (.int (0 : Int32)), .val (.long p5), .second, .val (.long p2), .second, .val (.long p3), .second] [(.int (lcmpW p2 p2))])) _
      refine XS.ifNo X9.here hx rfl (hb hby at_112) rfl ((if0 _ _).trans (teq ((own_lc0 rfl) : (lcmpW p2 p2) = (0 : Int32))).2) ?_
      show Steps p.tables e below (T9.setTop (mkF m 115 #[.val (.long p1), .second, .val (.long p2), .second, .val (.long p3), .second, .val (.long p5), .second, .val (.int p4), .val (.ref b1), .val (.int (0 : Int32)), .val (.long p5), .second, .val (.long p2), .second, .val (.long p3), .second] [])) _
      refine XS.aload X9.here hx rfl (hb hby at_115) rfl rfl ?_
      show Steps p.tables e below (T9.setTop (mkF m 117 #[.val (.long p1), .second, .val (.long p2), .second, .val (.long p3), .second, .val (.long p5), .second, .val (.int p4), .val (.ref b1), .val (.int (0 : Int32)), .val (.long p5), .second, .val (.long p2), .second, .val (.long p3), .second] [(.ref b1)])) _
      refine XS.iconst X9.here hx rfl (hb hby at_117) ?_
      show Steps p.tables e below (T9.setTop (mkF m 118 #[.val (.long p1), .second, .val (.long p2), .second, .val (.long p3), .second, .val (.long p5), .second, .val (.int p4), .val (.ref b1), .val (.int (0 : Int32)), .val (.long p5), .second, .val (.long p2), .second, .val (.long p3), .second] [(.int (2 : Int32)), (.ref b1)])) _
      refine st10.trans ?_
      show Steps p.tables e below (T10.setTop (mkF m 121 #[.val (.long p1), .second, .val (.long p2), .second, .val (.long p3), .second, .val (.long p5), .second, .val (.int p4), .val (.ref b1), .val (.int (0 : Int32)), .val (.long p5), .second, .val (.long p2), .second, .val (.long p3), .second] [(.long p3)])) _
      refine XS.lload X10.here hx rfl (hb hby at_121) rfl ?_
      show Steps p.tables e below (T10.setTop (mkF m 123 #[.val (.long p1), .second, .val (.long p2), .second, .val (.long p3), .second, .val (.long p5), .second, .val (.int p4), .val (.ref b1), .val (.int (0 : Int32)), .val (.long p5), .second, .val (.long p2), .second, .val (.long p3), .second] [(.long p3), (.long p3)])) _
      refine XS.lcmp X10.here hx rfl (hb hby at_123) rfl ?_
      show Steps p.tables e below (T10.setTop (mkF m 124 #[.val (.long p1), .second, .val (.long p2), .second, .val (.long p3), .second, .val (.long p5), .second, .val (.int p4), .val (.ref b1), .val (.int (0 : Int32)), .val (.long p5), .second, .val (.long p2), .second, .val (.long p3), .second] [(.int (lcmpW p3 p3))])) _
      refine XS.ifNo X10.here hx rfl (hb hby at_124) rfl ((if0 _ _).trans (teq ((own_lc0 rfl) : (lcmpW p3 p3) = (0 : Int32))).2) ?_
      show Steps p.tables e below (T10.setTop (mkF m 127 #[.val (.long p1), .second, .val (.long p2), .second, .val (.long p3), .second, .val (.long p5), .second, .val (.int p4), .val (.ref b1), .val (.int (0 : Int32)), .val (.long p5), .second, .val (.long p2), .second, .val (.long p3), .second] [])) _
      refine XS.iconst X10.here hx rfl (hb hby at_127) ?_
      show Steps p.tables e below (T10.setTop (mkF m 128 #[.val (.long p1), .second, .val (.long p2), .second, .val (.long p3), .second, .val (.long p5), .second, .val (.int p4), .val (.ref b1), .val (.int (0 : Int32)), .val (.long p5), .second, .val (.long p2), .second, .val (.long p3), .second] [(.int (1 : Int32))])) _
      refine XS.goto X10.here hx rfl (pc0 := 128) (pc' := 132) rfl (hb hby at_128) (by decide) (by decide) ?_
      exact k)
    obtain ⟨fs, hr, hrun, hended, hW, hsame⟩ := X10.leave (v := some (.int (nar .boolean (1 : Int32)))) (fun h => by rw [Bd.returns] at h; cases h)
    refine ⟨_, _, pre11 _ ?_, hrun, hended, _, _, rfl, ?_, ⟨_, rfl⟩, hW, hsame.mono (by decide) (by decide)⟩
    · show Steps p.tables e below (T10.setTop (mkF m 132 #[.val (.long p1), .second, .val (.long p2), .second, .val (.long p3), .second, .val (.long p5), .second, .val (.int p4), .val (.ref b1), .val (.int (0 : Int32)), .val (.long p5), .second, .val (.long p2), .second, .val (.long p3), .second] [(.int (1 : Int32))])) _
      exact retN X10 hx (t := .boolean) Bd.returns (by simp) (hb hby at_132) hr
    · show QL n0 _ T10.heap _
      rw [e10]
      exact ⟨rfl, N10⟩
  · subst hk
    obtain ⟨cq12, kq12, q12a, q12b, q12c⟩ := isOf hZ e5 X5_50
    obtain ⟨_, _, ⟨T12, L12, k12, n12⟩, -, X12, ⟨Lc12, hQ12, l12, y12, z12⟩, st12⟩ := X5.virtualBack hx (y := (⟨"com/example/sameshape/sameshape/diff/LongColumn", "set", "(IJ)V"⟩ : MethodName)) (z := (⟨"com/example/sameshape/sameshape/diff/LongColumn", "set", "(IJ)V"⟩ : MethodName)) hown (mvT hZ (hw _ (List.mem_of_getElem? (i := 24) rfl))) (mvT hZ (hw _ (List.mem_of_getElem? (i := 25) rfl))) (notFace_of_selects (args := #[]) (mvT hZ (hw _ (List.mem_of_getElem? (i := 27) rfl)))) (mvT hZ (hw _ (List.mem_of_getElem? (i := 27) rfl))) (mvT hZ (hw _ (List.mem_of_getElem? (i := 26) rfl))) (by decide) (backOf (W := 0) (rmS1 l Z a0 hw []  b1 p5 bl2 ch3 kb2 kc3 p1 p2 p3 h5 n0 z5 X5_50 g_b1 fb5 g_bl2 ov2 ne_b1_bl2 g_ch3 ne_b1_ch3 ne_bl2_ch3 V5_51 vc5) hZ (hw _ (List.mem_of_getElem? (i := 28) rfl)) (hw _ (List.mem_of_getElem? (i := 2) rfl)) (by decide) (by decide)) q12a q12c (g := (mkF m 46 #[.val (.long p1), .second, .val (.long p2), .second, .val (.long p3), .second, .val (.long p5), .second, .val (.int p4), .val (.ref b1), .val (.int (1 : Int32)), .unset, .unset, .unset, .unset, .unset, .unset] [(.long p5), (.int (1 : Int32)), (.ref b1)])) rfl (by rw [hml]; rfl) (Steps.refl _) (argsL := [(.int (1 : Int32)), (.long p5)]) (rest := []) (lenOf own_pd2 rfl) rfl (by show 2 * 0 + _ ≤ _; exact Nat.le_of_eq rfl) (hb hby at_46) (fun _ _ => ⟨rfl, e5, (by decide : 3 + 0 ≤ _), (by decide : 131 + 0 ≤ _)⟩)
    dsimp only [Pt.U, Pt.locs, Pt.cells, Pt.slots] at X12 l12 y12 z12 st12 hQ12
    subst l12 y12 z12
    obtain ⟨h12, e12⟩ : ∃ z, T12.heap = z := ⟨_, rfl⟩
    rw [e12] at hQ12
    obtain ⟨rfl, N12q, Kc12, vc12⟩ := hQ12
    have N12 := Fr.app N5 N12q
    have F12_232 := fb5.keep Kc12 (ninS ne_b1_ch3 nin0)
    have F12_233 := fs5.keep Kc12 (ninS ne_b1_ch3 nin0)
    have X12_234 := X5_50.keep Kc12
    have V12_235 := V5_51.keep Kc12 (ninS ne_bl2_ch3 nin0)
    have z12 : n0 ≤ h12.size := Nat.le_trans z5 Kc12.1
    obtain ⟨cq13, kq13, q13a, q13b, q13c⟩ := isOf hZ e12 X12_234
    obtain ⟨_, _, ⟨T13, L13, k13, n13⟩, -, X13, ⟨Lc13, hQ13, l13, y13, z13⟩, st13⟩ := X12.virtualBack hx (y := (⟨"com/example/sameshape/sameshape/diff/LongColumn", "get", "(I)J"⟩ : MethodName)) (z := (⟨"com/example/sameshape/sameshape/diff/LongColumn", "get", "(I)J"⟩ : MethodName)) hown (mvT hZ (hw _ (List.mem_of_getElem? (i := 29) rfl))) (mvT hZ (hw _ (List.mem_of_getElem? (i := 30) rfl))) (notFace_of_selects (args := #[]) (mvT hZ (hw _ (List.mem_of_getElem? (i := 32) rfl)))) (mvT hZ (hw _ (List.mem_of_getElem? (i := 32) rfl))) (mvT hZ (hw _ (List.mem_of_getElem? (i := 31) rfl))) (by decide) (backOf (W := 0) (rmG0 l Z a0 hw []  b1 bl2 ch3 kb2 kc3 p1 p5 p3 h12 n0 z12 X12_234 g_b1 F12_232 g_bl2 ov2 ne_b1_bl2 g_ch3 ne_b1_ch3 ne_bl2_ch3 V12_235 vc12) hZ (hw _ (List.mem_of_getElem? (i := 33) rfl)) (hw _ (List.mem_of_getElem? (i := 2) rfl)) (by decide) (by decide)) q13a q13c (g := (mkF m 94 #[.val (.long p1), .second, .val (.long p2), .second, .val (.long p3), .second, .val (.long p5), .second, .val (.int p4), .val (.ref b1), .val (.int (1 : Int32)), .val (.long p1), .second, .val (.long p5), .second, .val (.long p3), .second] [(.int (0 : Int32)), (.ref b1)])) rfl (by rw [hml]; rfl) (Steps.refl _) (argsL := [(.int (0 : Int32))]) (rest := []) (lenOf own_pd3 rfl) rfl (by show 2 * 0 + _ ≤ _; exact Nat.le_of_eq rfl) (hb hby at_94) (fun _ _ => ⟨rfl, e12, (by decide : 3 + 0 ≤ _), (by decide : 131 + 0 ≤ _)⟩)
    dsimp only [Pt.U, Pt.locs, Pt.cells, Pt.slots] at X13 l13 y13 z13 st13 hQ13
    subst l13 y13 z13
    obtain ⟨rfl, N13q, e13⟩ := hQ13
    have N13 := Fr.app N12 N13q
    obtain ⟨cq14, kq14, q14a, q14b, q14c⟩ := isOf hZ e13 X12_234
    obtain ⟨_, _, ⟨T14, L14, k14, n14⟩, -, X14, ⟨Lc14, hQ14, l14, y14, z14⟩, st14⟩ := X13.virtualBack hx (y := (⟨"com/example/sameshape/sameshape/diff/LongColumn", "get", "(I)J"⟩ : MethodName)) (z := (⟨"com/example/sameshape/sameshape/diff/LongColumn", "get", "(I)J"⟩ : MethodName)) hown (mvT hZ (hw _ (List.mem_of_getElem? (i := 29) rfl))) (mvT hZ (hw _ (List.mem_of_getElem? (i := 30) rfl))) (notFace_of_selects (args := #[]) (mvT hZ (hw _ (List.mem_of_getElem? (i := 32) rfl)))) (mvT hZ (hw _ (List.mem_of_getElem? (i := 32) rfl))) (mvT hZ (hw _ (List.mem_of_getElem? (i := 31) rfl))) (by decide) (backOf (W := 0) (rmG1 l Z a0 hw []  b1 bl2 ch3 kb2 kc3 p1 p5 p3 h12 n0 z12 X12_234 g_b1 F12_232 g_bl2 ov2 ne_b1_bl2 g_ch3 ne_b1_ch3 ne_bl2_ch3 V12_235 vc12) hZ (hw _ (List.mem_of_getElem? (i := 33) rfl)) (hw _ (List.mem_of_getElem? (i := 2) rfl)) (by decide) (by decide)) q14a q14c (g := (mkF m 106 #[.val (.long p1), .second, .val (.long p2), .second, .val (.long p3), .second, .val (.long p5), .second, .val (.int p4), .val (.ref b1), .val (.int (1 : Int32)), .val (.long p1), .second, .val (.long p5), .second, .val (.long p3), .second] [(.int (1 : Int32)), (.ref b1)])) rfl (by rw [hml]; rfl) (Steps.refl _) (argsL := [(.int (1 : Int32))]) (rest := []) (lenOf own_pd3 rfl) rfl (by show 2 * 0 + _ ≤ _; exact Nat.le_of_eq rfl) (hb hby at_106) (fun _ _ => ⟨rfl, e13, (by decide : 3 + 0 ≤ _), (by decide : 131 + 0 ≤ _)⟩)
    dsimp only [Pt.U, Pt.locs, Pt.cells, Pt.slots] at X14 l14 y14 z14 st14 hQ14
    subst l14 y14 z14
    obtain ⟨rfl, N14q, e14⟩ := hQ14
    have N14 := Fr.app N13 N14q
    obtain ⟨cq15, kq15, q15a, q15b, q15c⟩ := isOf hZ e14 X12_234
    obtain ⟨_, _, ⟨T15, L15, k15, n15⟩, -, X15, ⟨Lc15, hQ15, l15, y15, z15⟩, st15⟩ := X14.virtualBack hx (y := (⟨"com/example/sameshape/sameshape/diff/LongColumn", "get", "(I)J"⟩ : MethodName)) (z := (⟨"com/example/sameshape/sameshape/diff/LongColumn", "get", "(I)J"⟩ : MethodName)) hown (mvT hZ (hw _ (List.mem_of_getElem? (i := 29) rfl))) (mvT hZ (hw _ (List.mem_of_getElem? (i := 30) rfl))) (notFace_of_selects (args := #[]) (mvT hZ (hw _ (List.mem_of_getElem? (i := 32) rfl)))) (mvT hZ (hw _ (List.mem_of_getElem? (i := 32) rfl))) (mvT hZ (hw _ (List.mem_of_getElem? (i := 31) rfl))) (by decide) (backOf (W := 0) (rmG2 l Z a0 hw []  b1 bl2 ch3 kb2 kc3 p1 p5 p3 h12 n0 z12 X12_234 g_b1 F12_232 g_bl2 ov2 ne_b1_bl2 g_ch3 ne_b1_ch3 ne_bl2_ch3 V12_235 vc12) hZ (hw _ (List.mem_of_getElem? (i := 33) rfl)) (hw _ (List.mem_of_getElem? (i := 2) rfl)) (by decide) (by decide)) q15a q15c (g := (mkF m 118 #[.val (.long p1), .second, .val (.long p2), .second, .val (.long p3), .second, .val (.long p5), .second, .val (.int p4), .val (.ref b1), .val (.int (1 : Int32)), .val (.long p1), .second, .val (.long p5), .second, .val (.long p3), .second] [(.int (2 : Int32)), (.ref b1)])) rfl (by rw [hml]; rfl) (Steps.refl _) (argsL := [(.int (2 : Int32))]) (rest := []) (lenOf own_pd3 rfl) rfl (by show 2 * 0 + _ ≤ _; exact Nat.le_of_eq rfl) (hb hby at_118) (fun _ _ => ⟨rfl, e14, (by decide : 3 + 0 ≤ _), (by decide : 131 + 0 ≤ _)⟩)
    dsimp only [Pt.U, Pt.locs, Pt.cells, Pt.slots] at X15 l15 y15 z15 st15 hQ15
    subst l15 y15 z15
    obtain ⟨rfl, N15q, e15⟩ := hQ15
    have N15 := Fr.app N14 N15q
    have pre16 : ∀ t, Steps p.tables e below (T15.setTop (mkF m 132 #[.val (.long p1), .second, .val (.long p2), .second, .val (.long p3), .second, .val (.long p5), .second, .val (.int p4), .val (.ref b1), .val (.int (1 : Int32)), .val (.long p1), .second, .val (.long p5), .second, .val (.long p3), .second] [(.int (1 : Int32))])) t → Steps p.tables e below (s₁.setTop (entryFrame m #[(.long p1), (.long p2), (.long p3), (.long p5), (.int p4)] maxLocals)) t := fun t k => pre6 t (by
      show Steps p.tables e below (T5.setTop (mkF m 38 #[.val (.long p1), .second, .val (.long p2), .second, .val (.long p3), .second, .val (.long p5), .second, .val (.int p4), .val (.ref b1), .unset, .unset, .unset, .unset, .unset, .unset, .unset] [(.int (1 : Int32))])) _
      refine XS.istore X5.here hx rfl (hb hby at_38) rfl (l' := #[.val (.long p1), .second, .val (.long p2), .second, .val (.long p3), .second, .val (.long p5), .second, .val (.int p4), .val (.ref b1), .val (.int (1 : Int32)), .unset, .unset, .unset, .unset, .unset, .unset]) rfl ?_
      show Steps p.tables e below (T5.setTop (mkF m 40 #[.val (.long p1), .second, .val (.long p2), .second, .val (.long p3), .second, .val (.long p5), .second, .val (.int p4), .val (.ref b1), .val (.int (1 : Int32)), .unset, .unset, .unset, .unset, .unset, .unset] [])) _
      refine XS.aload X5.here hx rfl (hb hby at_40) rfl rfl ?_
      show Steps p.tables e below (T5.setTop (mkF m 42 #[.val (.long p1), .second, .val (.long p2), .second, .val (.long p3), .second, .val (.long p5), .second, .val (.int p4), .val (.ref b1), .val (.int (1 : Int32)), .unset, .unset, .unset, .unset, .unset, .unset] [(.ref b1)])) _
      refine XS.iload X5.here hx rfl (hb hby at_42) rfl ?_
      show Steps p.tables e below (T5.setTop (mkF m 44 #[.val (.long p1), .second, .val (.long p2), .second, .val (.long p3), .second, .val (.long p5), .second, .val (.int p4), .val (.ref b1), .val (.int (1 : Int32)), .unset, .unset, .unset, .unset, .unset, .unset] [(.int (1 : Int32)), (.ref b1)])) _
      refine XS.lload X5.here hx rfl (hb hby at_44) rfl ?_
      show Steps p.tables e below (T5.setTop (mkF m 46 #[.val (.long p1), .second, .val (.long p2), .second, .val (.long p3), .second, .val (.long p5), .second, .val (.int p4), .val (.ref b1), .val (.int (1 : Int32)), .unset, .unset, .unset, .unset, .unset, .unset] [(.long p5), (.int (1 : Int32)), (.ref b1)])) _
      refine st12.trans ?_
      show Steps p.tables e below (T12.setTop (mkF m 49 #[.val (.long p1), .second, .val (.long p2), .second, .val (.long p3), .second, .val (.long p5), .second, .val (.int p4), .val (.ref b1), .val (.int (1 : Int32)), .unset, .unset, .unset, .unset, .unset, .unset] [])) _
      refine XS.iload X12.here hx rfl (hb hby at_49) rfl ?_
      show Steps p.tables e below (T12.setTop (mkF m 51 #[.val (.long p1), .second, .val (.long p2), .second, .val (.long p3), .second, .val (.long p5), .second, .val (.int p4), .val (.ref b1), .val (.int (1 : Int32)), .unset, .unset, .unset, .unset, .unset, .unset] [(.int (1 : Int32))])) _
      refine XS.ifYes X12.here hx rfl (pc0 := 51) (pc' := 59) rfl (hb hby at_51) rfl ((if0 _ _).trans (feq ((by decide) : ¬ ((1 : Int32) = (0 : Int32)))).2) (by decide) (by decide) ?_
      show Steps p.tables e below (T12.setTop (mkF m 59 #[.val (.long p1), .second, .val (.long p2), .second, .val (.long p3), .second, .val (.long p5), .second, .val (.int p4), .val (.ref b1), .val (.int (1 : Int32)), .unset, .unset, .unset, .unset, .unset, .unset] [])) _
      refine XS.lloadN X12.here hx rfl (hb hby at_59) rfl ?_
      show Steps p.tables e below (T12.setTop (mkF m 60 #[.val (.long p1), .second, .val (.long p2), .second, .val (.long p3), .second, .val (.long p5), .second, .val (.int p4), .val (.ref b1), .val (.int (1 : Int32)), .unset, .unset, .unset, .unset, .unset, .unset] [(.long p1)])) _
      refine XS.lstore X12.here hx rfl (hb hby at_60) rfl (l' := #[.val (.long p1), .second, .val (.long p2), .second, .val (.long p3), .second, .val (.long p5), .second, .val (.int p4), .val (.ref b1), .val (.int (1 : Int32)), .val (.long p1), .second, .unset, .unset, .unset, .unset]) rfl ?_
      show Steps p.tables e below (T12.setTop (mkF m 62 #[.val (.long p1), .second, .val (.long p2), .second, .val (.long p3), .second, .val (.long p5), .second, .val (.int p4), .val (.ref b1), .val (.int (1 : Int32)), .val (.long p1), .second, .unset, .unset, .unset, .unset] [])) _
      refine XS.iload X12.here hx rfl (hb hby at_62) rfl ?_
      show Steps p.tables e below (T12.setTop (mkF m 64 #[.val (.long p1), .second, .val (.long p2), .second, .val (.long p3), .second, .val (.long p5), .second, .val (.int p4), .val (.ref b1), .val (.int (1 : Int32)), .val (.long p1), .second, .unset, .unset, .unset, .unset] [(.int (1 : Int32))])) _
      refine XS.iconst X12.here hx rfl (hb hby at_64) ?_
      show Steps p.tables e below (T12.setTop (mkF m 65 #[.val (.long p1), .second, .val (.long p2), .second, .val (.long p3), .second, .val (.long p5), .second, .val (.int p4), .val (.ref b1), .val (.int (1 : Int32)), .val (.long p1), .second, .unset, .unset, .unset, .unset] [(.int (1 : Int32)), (.int (1 : Int32))])) _
      refine XS.icmpNo X12.here hx rfl (hb hby at_65) rfl (teq ((by decide) : (1 : Int32) = (1 : Int32))).2 ?_
      show Steps p.tables e below (T12.setTop (mkF m 68 #[.val (.long p1), .second, .val (.long p2), .second, .val (.long p3), .second, .val (.long p5), .second, .val (.int p4), .val (.ref b1), .val (.int (1 : Int32)), .val (.long p1), .second, .unset, .unset, .unset, .unset] [])) _
      refine XS.lload X12.here hx rfl (hb hby at_68) rfl ?_
      show Steps p.tables e below (T12.setTop (mkF m 70 #[.val (.long p1), .second, .val (.long p2), .second, .val (.long p3), .second, .val (.long p5), .second, .val (.int p4), .val (.ref b1), .val (.int (1 : Int32)), .val (.long p1), .second, .unset, .unset, .unset, .unset] [(.long p5)])) _
      refine XS.goto X12.here hx rfl (pc0 := 70) (pc' := 74) rfl (hb hby at_70) (by decide) (by decide) ?_
      show Steps p.tables e below (T12.setTop (mkF m 74 #[.val (.long p1), .second, .val (.long p2), .second, .val (.long p3), .second, .val (.long p5), .second, .val (.int p4), .val (.ref b1), .val (.int (1 : Int32)), .val (.long p1), .second, .unset, .unset, .unset, .unset] [(.long p5)])) _
      refine XS.lstore X12.here hx rfl (hb hby at_74) rfl (l' := #[.val (.long p1), .second, .val (.long p2), .second, .val (.long p3), .second, .val (.long p5), .second, .val (.int p4), .val (.ref b1), .val (.int (1 : Int32)), .val (.long p1), .second, .val (.long p5), .second, .unset, .unset]) rfl ?_
      show Steps p.tables e below (T12.setTop (mkF m 76 #[.val (.long p1), .second, .val (.long p2), .second, .val (.long p3), .second, .val (.long p5), .second, .val (.int p4), .val (.ref b1), .val (.int (1 : Int32)), .val (.long p1), .second, .val (.long p5), .second, .unset, .unset] [])) _
      refine XS.iload X12.here hx rfl (hb hby at_76) rfl ?_
      show Steps p.tables e below (T12.setTop (mkF m 78 #[.val (.long p1), .second, .val (.long p2), .second, .val (.long p3), .second, .val (.long p5), .second, .val (.int p4), .val (.ref b1), .val (.int (1 : Int32)), .val (.long p1), .second, .val (.long p5), .second, .unset, .unset] [(.int (1 : Int32))])) _
      refine XS.iconst X12.here hx rfl (hb hby at_78) ?_
      show Steps p.tables e below (T12.setTop (mkF m 79 #[.val (.long p1), .second, .val (.long p2), .second, .val (.long p3), .second, .val (.long p5), .second, .val (.int p4), .val (.ref b1), .val (.int (1 : Int32)), .val (.long p1), .second, .val (.long p5), .second, .unset, .unset] [(.int (2 : Int32)), (.int (1 : Int32))])) _
      refine XS.icmpYes X12.here hx rfl (pc0 := 79) (pc' := 87) rfl (hb hby at_79) rfl (feq ((by decide) : ¬ ((1 : Int32) = (2 : Int32)))).2 (by decide) (by decide) ?_
      show Steps p.tables e below (T12.setTop (mkF m 87 #[.val (.long p1), .second, .val (.long p2), .second, .val (.long p3), .second, .val (.long p5), .second, .val (.int p4), .val (.ref b1), .val (.int (1 : Int32)), .val (.long p1), .second, .val (.long p5), .second, .unset, .unset] [])) _
      refine XS.lload X12.here hx rfl (hb hby at_87) rfl ?_
      show Steps p.tables e below (T12.setTop (mkF m 89 #[.val (.long p1), .second, .val (.long p2), .second, .val (.long p3), .second, .val (.long p5), .second, .val (.int p4), .val (.ref b1), .val (.int (1 : Int32)), .val (.long p1), .second, .val (.long p5), .second, .unset, .unset] [(.long p3)])) _
      refine XS.lstore X12.here hx rfl (hb hby at_89) rfl (l' := #[.val (.long p1), .second, .val (.long p2), .second, .val (.long p3), .second, .val (.long p5), .second, .val (.int p4), .val (.ref b1), .val (.int (1 : Int32)), .val (.long p1), .second, .val (.long p5), .second, .val (.long p3), .second]) rfl ?_
      show Steps p.tables e below (T12.setTop (mkF m 91 #[.val (.long p1), .second, .val (.long p2), .second, .val (.long p3), .second, .val (.long p5), .second, .val (.int p4), .val (.ref b1), .val (.int (1 : Int32)), .val (.long p1), .second, .val (.long p5), .second, .val (.long p3), .second] [])) _
      refine XS.aload X12.here hx rfl (hb hby at_91) rfl rfl ?_
      show Steps p.tables e below (T12.setTop (mkF m 93 #[.val (.long p1), .second, .val (.long p2), .second, .val (.long p3), .second, .val (.long p5), .second, .val (.int p4), .val (.ref b1), .val (.int (1 : Int32)), .val (.long p1), .second, .val (.long p5), .second, .val (.long p3), .second] [(.ref b1)])) _
      refine XS.iconst X12.here hx rfl (hb hby at_93) ?_
      show Steps p.tables e below (T12.setTop (mkF m 94 #[.val (.long p1), .second, .val (.long p2), .second, .val (.long p3), .second, .val (.long p5), .second, .val (.int p4), .val (.ref b1), .val (.int (1 : Int32)), .val (.long p1), .second, .val (.long p5), .second, .val (.long p3), .second] [(.int (0 : Int32)), (.ref b1)])) _
      refine st13.trans ?_
      show Steps p.tables e below (T13.setTop (mkF m 97 #[.val (.long p1), .second, .val (.long p2), .second, .val (.long p3), .second, .val (.long p5), .second, .val (.int p4), .val (.ref b1), .val (.int (1 : Int32)), .val (.long p1), .second, .val (.long p5), .second, .val (.long p3), .second] [(.long p1)])) _
      refine XS.lload X13.here hx rfl (hb hby at_97) rfl ?_
      show Steps p.tables e below (T13.setTop (mkF m 99 #[.val (.long p1), .second, .val (.long p2), .second, .val (.long p3), .second, .val (.long p5), .second, .val (.int p4), .val (.ref b1), .val (.int (1 : Int32)), .val (.long p1), .second, .val (.long p5), .second, .val (.long p3), .second] [(.long p1), (.long p1)])) _
      refine XS.lcmp X13.here hx rfl (hb hby at_99) rfl ?_
      show Steps p.tables e below (T13.setTop (mkF m 100 #[.val (.long p1), .second, .val (.long p2), .second, .val (.long p3), .second, .val (.long p5), .second, .val (.int p4), .val (.ref b1), .val (.int (1 : Int32)), .val (.long p1), .second, .val (.long p5), .second, .val (.long p3), .second] [(.int (lcmpW p1 p1))])) _
      refine XS.ifNo X13.here hx rfl (hb hby at_100) rfl ((if0 _ _).trans (teq ((own_lc0 rfl) : (lcmpW p1 p1) = (0 : Int32))).2) ?_
      show Steps p.tables e below (T13.setTop (mkF m 103 #[.val (.long p1), .second, .val (.long p2), .second, .val (.long p3), .second, .val (.long p5), .second, .val (.int p4), .val (.ref b1), .val (.int (1 : Int32)), .val (.long p1), .second, .val (.long p5), .second, .val (.long p3), .second] [])) _
      refine XS.aload X13.here hx rfl (hb hby at_103) rfl rfl ?_
      show Steps p.tables e below (T13.setTop (mkF m 105 #[.val (.long p1), .second, .val (.long p2), .second, .val (.long p3), .second, .val (.long p5), .second, .val (.int p4), .val (.ref b1), .val (.int (1 : Int32)), .val (.long p1), .second, .val (.long p5), .second, .val (.long p3), .second] [(.ref b1)])) _
      refine XS.iconst X13.here hx rfl (hb hby at_105) ?_
      show Steps p.tables e below (T13.setTop (mkF m 106 #[.val (.long p1), .second, .val (.long p2), .second, .val (.long p3), .second, .val (.long p5), .second, .val (.int p4), .val (.ref b1), .val (.int (1 : Int32)), .val (.long p1), .second, .val (.long p5), .second, .val (.long p3), .second] [(.int (1 : Int32)), (.ref b1)])) _
      refine st14.trans ?_
      show Steps p.tables e below (T14.setTop (mkF m 109 #[.val (.long p1), .second, .val (.long p2), .second, .val (.long p3), .second, .val (.long p5), .second, .val (.int p4), .val (.ref b1), .val (.int (1 : Int32)), .val (.long p1), .second, .val (.long p5), .second, .val (.long p3), .second] [(.long p5)])) _
      refine XS.lload X14.here hx rfl (hb hby at_109) rfl ?_
      show Steps p.tables e below (T14.setTop (mkF m 111 #[.val (.long p1), .second, .val (.long p2), .second, .val (.long p3), .second, .val (.long p5), .second, .val (.int p4), .val (.ref b1), .val (.int (1 : Int32)), .val (.long p1), .second, .val (.long p5), .second, .val (.long p3), .second] [(.long p5), (.long p5)])) _
      refine XS.lcmp X14.here hx rfl (hb hby at_111) rfl ?_
      show Steps p.tables e below (T14.setTop (mkF m 112 #[.val (.long p1), .second, .val (.long p2), .second, .val (.long p3), .second, .val (.long p5), .second, .val (.int p4), .val (.ref b1), .val (.int (1 : Int32)), .val (.long p1), .second, .val (.long p5), .second, .val (.long p3), .second] [(.int (lcmpW p5 p5))])) _
      refine XS.ifNo X14.here hx rfl (hb hby at_112) rfl ((if0 _ _).trans (teq ((own_lc0 rfl) : (lcmpW p5 p5) = (0 : Int32))).2) ?_
      show Steps p.tables e below (T14.setTop (mkF m 115 #[.val (.long p1), .second, .val (.long p2), .second, .val (.long p3), .second, .val (.long p5), .second, .val (.int p4), .val (.ref b1), .val (.int (1 : Int32)), .val (.long p1), .second, .val (.long p5), .second, .val (.long p3), .second] [])) _
      refine XS.aload X14.here hx rfl (hb hby at_115) rfl rfl ?_
      show Steps p.tables e below (T14.setTop (mkF m 117 #[.val (.long p1), .second, .val (.long p2), .second, .val (.long p3), .second, .val (.long p5), .second, .val (.int p4), .val (.ref b1), .val (.int (1 : Int32)), .val (.long p1), .second, .val (.long p5), .second, .val (.long p3), .second] [(.ref b1)])) _
      refine XS.iconst X14.here hx rfl (hb hby at_117) ?_
      show Steps p.tables e below (T14.setTop (mkF m 118 #[.val (.long p1), .second, .val (.long p2), .second, .val (.long p3), .second, .val (.long p5), .second, .val (.int p4), .val (.ref b1), .val (.int (1 : Int32)), .val (.long p1), .second, .val (.long p5), .second, .val (.long p3), .second] [(.int (2 : Int32)), (.ref b1)])) _
      refine st15.trans ?_
      show Steps p.tables e below (T15.setTop (mkF m 121 #[.val (.long p1), .second, .val (.long p2), .second, .val (.long p3), .second, .val (.long p5), .second, .val (.int p4), .val (.ref b1), .val (.int (1 : Int32)), .val (.long p1), .second, .val (.long p5), .second, .val (.long p3), .second] [(.long p3)])) _
      refine XS.lload X15.here hx rfl (hb hby at_121) rfl ?_
      show Steps p.tables e below (T15.setTop (mkF m 123 #[.val (.long p1), .second, .val (.long p2), .second, .val (.long p3), .second, .val (.long p5), .second, .val (.int p4), .val (.ref b1), .val (.int (1 : Int32)), .val (.long p1), .second, .val (.long p5), .second, .val (.long p3), .second] [(.long p3), (.long p3)])) _
      refine XS.lcmp X15.here hx rfl (hb hby at_123) rfl ?_
      show Steps p.tables e below (T15.setTop (mkF m 124 #[.val (.long p1), .second, .val (.long p2), .second, .val (.long p3), .second, .val (.long p5), .second, .val (.int p4), .val (.ref b1), .val (.int (1 : Int32)), .val (.long p1), .second, .val (.long p5), .second, .val (.long p3), .second] [(.int (lcmpW p3 p3))])) _
      refine XS.ifNo X15.here hx rfl (hb hby at_124) rfl ((if0 _ _).trans (teq ((own_lc0 rfl) : (lcmpW p3 p3) = (0 : Int32))).2) ?_
      show Steps p.tables e below (T15.setTop (mkF m 127 #[.val (.long p1), .second, .val (.long p2), .second, .val (.long p3), .second, .val (.long p5), .second, .val (.int p4), .val (.ref b1), .val (.int (1 : Int32)), .val (.long p1), .second, .val (.long p5), .second, .val (.long p3), .second] [])) _
      refine XS.iconst X15.here hx rfl (hb hby at_127) ?_
      show Steps p.tables e below (T15.setTop (mkF m 128 #[.val (.long p1), .second, .val (.long p2), .second, .val (.long p3), .second, .val (.long p5), .second, .val (.int p4), .val (.ref b1), .val (.int (1 : Int32)), .val (.long p1), .second, .val (.long p5), .second, .val (.long p3), .second] [(.int (1 : Int32))])) _
      refine XS.goto X15.here hx rfl (pc0 := 128) (pc' := 132) rfl (hb hby at_128) (by decide) (by decide) ?_
      exact k)
    obtain ⟨fs, hr, hrun, hended, hW, hsame⟩ := X15.leave (v := some (.int (nar .boolean (1 : Int32)))) (fun h => by rw [Bd.returns] at h; cases h)
    refine ⟨_, _, pre16 _ ?_, hrun, hended, _, _, rfl, ?_, ⟨_, rfl⟩, hW, hsame.mono (by decide) (by decide)⟩
    · show Steps p.tables e below (T15.setTop (mkF m 132 #[.val (.long p1), .second, .val (.long p2), .second, .val (.long p3), .second, .val (.long p5), .second, .val (.int p4), .val (.ref b1), .val (.int (1 : Int32)), .val (.long p1), .second, .val (.long p5), .second, .val (.long p3), .second] [(.int (1 : Int32))])) _
      exact retN X15 hx (t := .boolean) Bd.returns (by simp) (hb hby at_132) hr
    · show QL n0 _ T15.heap _
      rw [e15]
      exact ⟨rfl, N15⟩
  · subst hk
    obtain ⟨cq17, kq17, q17a, q17b, q17c⟩ := isOf hZ e5 X5_50
    obtain ⟨_, _, ⟨T17, L17, k17, n17⟩, -, X17, ⟨Lc17, hQ17, l17, y17, z17⟩, st17⟩ := X5.virtualBack hx (y := (⟨"com/example/sameshape/sameshape/diff/LongColumn", "set", "(IJ)V"⟩ : MethodName)) (z := (⟨"com/example/sameshape/sameshape/diff/LongColumn", "set", "(IJ)V"⟩ : MethodName)) hown (mvT hZ (hw _ (List.mem_of_getElem? (i := 24) rfl))) (mvT hZ (hw _ (List.mem_of_getElem? (i := 25) rfl))) (notFace_of_selects (args := #[]) (mvT hZ (hw _ (List.mem_of_getElem? (i := 27) rfl)))) (mvT hZ (hw _ (List.mem_of_getElem? (i := 27) rfl))) (mvT hZ (hw _ (List.mem_of_getElem? (i := 26) rfl))) (by decide) (backOf (W := 0) (rmS2 l Z a0 hw []  b1 p5 bl2 ch3 kb2 kc3 p1 p2 p3 h5 n0 z5 X5_50 g_b1 fb5 g_bl2 ov2 ne_b1_bl2 g_ch3 ne_b1_ch3 ne_bl2_ch3 V5_51 vc5) hZ (hw _ (List.mem_of_getElem? (i := 28) rfl)) (hw _ (List.mem_of_getElem? (i := 2) rfl)) (by decide) (by decide)) q17a q17c (g := (mkF m 46 #[.val (.long p1), .second, .val (.long p2), .second, .val (.long p3), .second, .val (.long p5), .second, .val (.int p4), .val (.ref b1), .val (.int (2 : Int32)), .unset, .unset, .unset, .unset, .unset, .unset] [(.long p5), (.int (2 : Int32)), (.ref b1)])) rfl (by rw [hml]; rfl) (Steps.refl _) (argsL := [(.int (2 : Int32)), (.long p5)]) (rest := []) (lenOf own_pd2 rfl) rfl (by show 2 * 0 + _ ≤ _; exact Nat.le_of_eq rfl) (hb hby at_46) (fun _ _ => ⟨rfl, e5, (by decide : 3 + 0 ≤ _), (by decide : 131 + 0 ≤ _)⟩)
    dsimp only [Pt.U, Pt.locs, Pt.cells, Pt.slots] at X17 l17 y17 z17 st17 hQ17
    subst l17 y17 z17
    obtain ⟨h17, e17⟩ : ∃ z, T17.heap = z := ⟨_, rfl⟩
    rw [e17] at hQ17
    obtain ⟨rfl, N17q, Kc17, vc17⟩ := hQ17
    have N17 := Fr.app N5 N17q
    have F17_353 := fb5.keep Kc17 (ninS ne_b1_ch3 nin0)
    have F17_354 := fs5.keep Kc17 (ninS ne_b1_ch3 nin0)
    have X17_355 := X5_50.keep Kc17
    have V17_356 := V5_51.keep Kc17 (ninS ne_bl2_ch3 nin0)
    have z17 : n0 ≤ h17.size := Nat.le_trans z5 Kc17.1
    obtain ⟨cq18, kq18, q18a, q18b, q18c⟩ := isOf hZ e17 X17_355
    obtain ⟨_, _, ⟨T18, L18, k18, n18⟩, -, X18, ⟨Lc18, hQ18, l18, y18, z18⟩, st18⟩ := X17.virtualBack hx (y := (⟨"com/example/sameshape/sameshape/diff/LongColumn", "get", "(I)J"⟩ : MethodName)) (z := (⟨"com/example/sameshape/sameshape/diff/LongColumn", "get", "(I)J"⟩ : MethodName)) hown (mvT hZ (hw _ (List.mem_of_getElem? (i := 29) rfl))) (mvT hZ (hw _ (List.mem_of_getElem? (i := 30) rfl))) (notFace_of_selects (args := #[]) (mvT hZ (hw _ (List.mem_of_getElem? (i := 32) rfl)))) (mvT hZ (hw _ (List.mem_of_getElem? (i := 32) rfl))) (mvT hZ (hw _ (List.mem_of_getElem? (i := 31) rfl))) (by decide) (backOf (W := 0) (rmG0 l Z a0 hw []  b1 bl2 ch3 kb2 kc3 p1 p2 p5 h17 n0 z17 X17_355 g_b1 F17_353 g_bl2 ov2 ne_b1_bl2 g_ch3 ne_b1_ch3 ne_bl2_ch3 V17_356 vc17) hZ (hw _ (List.mem_of_getElem? (i := 33) rfl)) (hw _ (List.mem_of_getElem? (i := 2) rfl)) (by decide) (by decide)) q18a q18c (g := (mkF m 94 #[.val (.long p1), .second, .val (.long p2), .second, .val (.long p3), .second, .val (.long p5), .second, .val (.int p4), .val (.ref b1), .val (.int (2 : Int32)), .val (.long p1), .second, .val (.long p2), .second, .val (.long p5), .second] [(.int (0 : Int32)), (.ref b1)])) rfl (by rw [hml]; rfl) (Steps.refl _) (argsL := [(.int (0 : Int32))]) (rest := []) (lenOf own_pd3 rfl) rfl (by show 2 * 0 + _ ≤ _; exact Nat.le_of_eq rfl) (hb hby at_94) (fun _ _ => ⟨rfl, e17, (by decide : 3 + 0 ≤ _), (by decide : 131 + 0 ≤ _)⟩)
    dsimp only [Pt.U, Pt.locs, Pt.cells, Pt.slots] at X18 l18 y18 z18 st18 hQ18
    subst l18 y18 z18
    obtain ⟨rfl, N18q, e18⟩ := hQ18
    have N18 := Fr.app N17 N18q
    obtain ⟨cq19, kq19, q19a, q19b, q19c⟩ := isOf hZ e18 X17_355
    obtain ⟨_, _, ⟨T19, L19, k19, n19⟩, -, X19, ⟨Lc19, hQ19, l19, y19, z19⟩, st19⟩ := X18.virtualBack hx (y := (⟨"com/example/sameshape/sameshape/diff/LongColumn", "get", "(I)J"⟩ : MethodName)) (z := (⟨"com/example/sameshape/sameshape/diff/LongColumn", "get", "(I)J"⟩ : MethodName)) hown (mvT hZ (hw _ (List.mem_of_getElem? (i := 29) rfl))) (mvT hZ (hw _ (List.mem_of_getElem? (i := 30) rfl))) (notFace_of_selects (args := #[]) (mvT hZ (hw _ (List.mem_of_getElem? (i := 32) rfl)))) (mvT hZ (hw _ (List.mem_of_getElem? (i := 32) rfl))) (mvT hZ (hw _ (List.mem_of_getElem? (i := 31) rfl))) (by decide) (backOf (W := 0) (rmG1 l Z a0 hw []  b1 bl2 ch3 kb2 kc3 p1 p2 p5 h17 n0 z17 X17_355 g_b1 F17_353 g_bl2 ov2 ne_b1_bl2 g_ch3 ne_b1_ch3 ne_bl2_ch3 V17_356 vc17) hZ (hw _ (List.mem_of_getElem? (i := 33) rfl)) (hw _ (List.mem_of_getElem? (i := 2) rfl)) (by decide) (by decide)) q19a q19c (g := (mkF m 106 #[.val (.long p1), .second, .val (.long p2), .second, .val (.long p3), .second, .val (.long p5), .second, .val (.int p4), .val (.ref b1), .val (.int (2 : Int32)), .val (.long p1), .second, .val (.long p2), .second, .val (.long p5), .second] [(.int (1 : Int32)), (.ref b1)])) rfl (by rw [hml]; rfl) (Steps.refl _) (argsL := [(.int (1 : Int32))]) (rest := []) (lenOf own_pd3 rfl) rfl (by show 2 * 0 + _ ≤ _; exact Nat.le_of_eq rfl) (hb hby at_106) (fun _ _ => ⟨rfl, e18, (by decide : 3 + 0 ≤ _), (by decide : 131 + 0 ≤ _)⟩)
    dsimp only [Pt.U, Pt.locs, Pt.cells, Pt.slots] at X19 l19 y19 z19 st19 hQ19
    subst l19 y19 z19
    obtain ⟨rfl, N19q, e19⟩ := hQ19
    have N19 := Fr.app N18 N19q
    obtain ⟨cq20, kq20, q20a, q20b, q20c⟩ := isOf hZ e19 X17_355
    obtain ⟨_, _, ⟨T20, L20, k20, n20⟩, -, X20, ⟨Lc20, hQ20, l20, y20, z20⟩, st20⟩ := X19.virtualBack hx (y := (⟨"com/example/sameshape/sameshape/diff/LongColumn", "get", "(I)J"⟩ : MethodName)) (z := (⟨"com/example/sameshape/sameshape/diff/LongColumn", "get", "(I)J"⟩ : MethodName)) hown (mvT hZ (hw _ (List.mem_of_getElem? (i := 29) rfl))) (mvT hZ (hw _ (List.mem_of_getElem? (i := 30) rfl))) (notFace_of_selects (args := #[]) (mvT hZ (hw _ (List.mem_of_getElem? (i := 32) rfl)))) (mvT hZ (hw _ (List.mem_of_getElem? (i := 32) rfl))) (mvT hZ (hw _ (List.mem_of_getElem? (i := 31) rfl))) (by decide) (backOf (W := 0) (rmG2 l Z a0 hw []  b1 bl2 ch3 kb2 kc3 p1 p2 p5 h17 n0 z17 X17_355 g_b1 F17_353 g_bl2 ov2 ne_b1_bl2 g_ch3 ne_b1_ch3 ne_bl2_ch3 V17_356 vc17) hZ (hw _ (List.mem_of_getElem? (i := 33) rfl)) (hw _ (List.mem_of_getElem? (i := 2) rfl)) (by decide) (by decide)) q20a q20c (g := (mkF m 118 #[.val (.long p1), .second, .val (.long p2), .second, .val (.long p3), .second, .val (.long p5), .second, .val (.int p4), .val (.ref b1), .val (.int (2 : Int32)), .val (.long p1), .second, .val (.long p2), .second, .val (.long p5), .second] [(.int (2 : Int32)), (.ref b1)])) rfl (by rw [hml]; rfl) (Steps.refl _) (argsL := [(.int (2 : Int32))]) (rest := []) (lenOf own_pd3 rfl) rfl (by show 2 * 0 + _ ≤ _; exact Nat.le_of_eq rfl) (hb hby at_118) (fun _ _ => ⟨rfl, e19, (by decide : 3 + 0 ≤ _), (by decide : 131 + 0 ≤ _)⟩)
    dsimp only [Pt.U, Pt.locs, Pt.cells, Pt.slots] at X20 l20 y20 z20 st20 hQ20
    subst l20 y20 z20
    obtain ⟨rfl, N20q, e20⟩ := hQ20
    have N20 := Fr.app N19 N20q
    have pre21 : ∀ t, Steps p.tables e below (T20.setTop (mkF m 132 #[.val (.long p1), .second, .val (.long p2), .second, .val (.long p3), .second, .val (.long p5), .second, .val (.int p4), .val (.ref b1), .val (.int (2 : Int32)), .val (.long p1), .second, .val (.long p2), .second, .val (.long p5), .second] [(.int (1 : Int32))])) t → Steps p.tables e below (s₁.setTop (entryFrame m #[(.long p1), (.long p2), (.long p3), (.long p5), (.int p4)] maxLocals)) t := fun t k => pre6 t (by
      show Steps p.tables e below (T5.setTop (mkF m 38 #[.val (.long p1), .second, .val (.long p2), .second, .val (.long p3), .second, .val (.long p5), .second, .val (.int p4), .val (.ref b1), .unset, .unset, .unset, .unset, .unset, .unset, .unset] [(.int (2 : Int32))])) _
      refine XS.istore X5.here hx rfl (hb hby at_38) rfl (l' := #[.val (.long p1), .second, .val (.long p2), .second, .val (.long p3), .second, .val (.long p5), .second, .val (.int p4), .val (.ref b1), .val (.int (2 : Int32)), .unset, .unset, .unset, .unset, .unset, .unset]) rfl ?_
      show Steps p.tables e below (T5.setTop (mkF m 40 #[.val (.long p1), .second, .val (.long p2), .second, .val (.long p3), .second, .val (.long p5), .second, .val (.int p4), .val (.ref b1), .val (.int (2 : Int32)), .unset, .unset, .unset, .unset, .unset, .unset] [])) _
      refine XS.aload X5.here hx rfl (hb hby at_40) rfl rfl ?_
      show Steps p.tables e below (T5.setTop (mkF m 42 #[.val (.long p1), .second, .val (.long p2), .second, .val (.long p3), .second, .val (.long p5), .second, .val (.int p4), .val (.ref b1), .val (.int (2 : Int32)), .unset, .unset, .unset, .unset, .unset, .unset] [(.ref b1)])) _
      refine XS.iload X5.here hx rfl (hb hby at_42) rfl ?_
      show Steps p.tables e below (T5.setTop (mkF m 44 #[.val (.long p1), .second, .val (.long p2), .second, .val (.long p3), .second, .val (.long p5), .second, .val (.int p4), .val (.ref b1), .val (.int (2 : Int32)), .unset, .unset, .unset, .unset, .unset, .unset] [(.int (2 : Int32)), (.ref b1)])) _
      refine XS.lload X5.here hx rfl (hb hby at_44) rfl ?_
      show Steps p.tables e below (T5.setTop (mkF m 46 #[.val (.long p1), .second, .val (.long p2), .second, .val (.long p3), .second, .val (.long p5), .second, .val (.int p4), .val (.ref b1), .val (.int (2 : Int32)), .unset, .unset, .unset, .unset, .unset, .unset] [(.long p5), (.int (2 : Int32)), (.ref b1)])) _
      refine st17.trans ?_
      show Steps p.tables e below (T17.setTop (mkF m 49 #[.val (.long p1), .second, .val (.long p2), .second, .val (.long p3), .second, .val (.long p5), .second, .val (.int p4), .val (.ref b1), .val (.int (2 : Int32)), .unset, .unset, .unset, .unset, .unset, .unset] [])) _
      refine XS.iload X17.here hx rfl (hb hby at_49) rfl ?_
      show Steps p.tables e below (T17.setTop (mkF m 51 #[.val (.long p1), .second, .val (.long p2), .second, .val (.long p3), .second, .val (.long p5), .second, .val (.int p4), .val (.ref b1), .val (.int (2 : Int32)), .unset, .unset, .unset, .unset, .unset, .unset] [(.int (2 : Int32))])) _
      refine XS.ifYes X17.here hx rfl (pc0 := 51) (pc' := 59) rfl (hb hby at_51) rfl ((if0 _ _).trans (feq ((by decide) : ¬ ((2 : Int32) = (0 : Int32)))).2) (by decide) (by decide) ?_
      show Steps p.tables e below (T17.setTop (mkF m 59 #[.val (.long p1), .second, .val (.long p2), .second, .val (.long p3), .second, .val (.long p5), .second, .val (.int p4), .val (.ref b1), .val (.int (2 : Int32)), .unset, .unset, .unset, .unset, .unset, .unset] [])) _
      refine XS.lloadN X17.here hx rfl (hb hby at_59) rfl ?_
      show Steps p.tables e below (T17.setTop (mkF m 60 #[.val (.long p1), .second, .val (.long p2), .second, .val (.long p3), .second, .val (.long p5), .second, .val (.int p4), .val (.ref b1), .val (.int (2 : Int32)), .unset, .unset, .unset, .unset, .unset, .unset] [(.long p1)])) _
      refine XS.lstore X17.here hx rfl (hb hby at_60) rfl (l' := #[.val (.long p1), .second, .val (.long p2), .second, .val (.long p3), .second, .val (.long p5), .second, .val (.int p4), .val (.ref b1), .val (.int (2 : Int32)), .val (.long p1), .second, .unset, .unset, .unset, .unset]) rfl ?_
      show Steps p.tables e below (T17.setTop (mkF m 62 #[.val (.long p1), .second, .val (.long p2), .second, .val (.long p3), .second, .val (.long p5), .second, .val (.int p4), .val (.ref b1), .val (.int (2 : Int32)), .val (.long p1), .second, .unset, .unset, .unset, .unset] [])) _
      refine XS.iload X17.here hx rfl (hb hby at_62) rfl ?_
      show Steps p.tables e below (T17.setTop (mkF m 64 #[.val (.long p1), .second, .val (.long p2), .second, .val (.long p3), .second, .val (.long p5), .second, .val (.int p4), .val (.ref b1), .val (.int (2 : Int32)), .val (.long p1), .second, .unset, .unset, .unset, .unset] [(.int (2 : Int32))])) _
      refine XS.iconst X17.here hx rfl (hb hby at_64) ?_
      show Steps p.tables e below (T17.setTop (mkF m 65 #[.val (.long p1), .second, .val (.long p2), .second, .val (.long p3), .second, .val (.long p5), .second, .val (.int p4), .val (.ref b1), .val (.int (2 : Int32)), .val (.long p1), .second, .unset, .unset, .unset, .unset] [(.int (1 : Int32)), (.int (2 : Int32))])) _
      refine XS.icmpYes X17.here hx rfl (pc0 := 65) (pc' := 73) rfl (hb hby at_65) rfl (feq ((by decide) : ¬ ((2 : Int32) = (1 : Int32)))).2 (by decide) (by decide) ?_
      show Steps p.tables e below (T17.setTop (mkF m 73 #[.val (.long p1), .second, .val (.long p2), .second, .val (.long p3), .second, .val (.long p5), .second, .val (.int p4), .val (.ref b1), .val (.int (2 : Int32)), .val (.long p1), .second, .unset, .unset, .unset, .unset] [])) _
      refine XS.lloadN X17.here hx rfl (hb hby at_73) rfl ?_
      show Steps p.tables e below (T17.setTop (mkF m 74 #[.val (.long p1), .second, .val (.long p2), .second, .val (.long p3), .second, .val (.long p5), .second, .val (.int p4), .val (.ref b1), .val (.int (2 : Int32)), .val (.long p1), .second, .unset, .unset, .unset, .unset] [(.long p2)])) _
      refine XS.lstore X17.here hx rfl (hb hby at_74) rfl (l' := #[.val (.long p1), .second, .val (.long p2), .second, .val (.long p3), .second, .val (.long p5), .second, .val (.int p4), .val (.ref b1), .val (.int (2 : Int32)), .val (.long p1), .second, .val (.long p2), .second, .unset, .unset]) rfl ?_
      show Steps p.tables e below (T17.setTop (mkF m 76 #[.val (.long p1), .second, .val (.long p2), .second, .val (.long p3), .second, .val (.long p5), .second, .val (.int p4), .val (.ref b1), .val (.int (2 : Int32)), .val (.long p1), .second, .val (.long p2), .second, .unset, .unset] [])) _
      refine XS.iload X17.here hx rfl (hb hby at_76) rfl ?_
      show Steps p.tables e below (T17.setTop (mkF m 78 #[.val (.long p1), .second, .val (.long p2), .second, .val (.long p3), .second, .val (.long p5), .second, .val (.int p4), .val (.ref b1), .val (.int (2 : Int32)), .val (.long p1), .second, .val (.long p2), .second, .unset, .unset] [(.int (2 : Int32))])) _
      refine XS.iconst X17.here hx rfl (hb hby at_78) ?_
      show Steps p.tables e below (T17.setTop (mkF m 79 #[.val (.long p1), .second, .val (.long p2), .second, .val (.long p3), .second, .val (.long p5), .second, .val (.int p4), .val (.ref b1), .val (.int (2 : Int32)), .val (.long p1), .second, .val (.long p2), .second, .unset, .unset] [(.int (2 : Int32)), (.int (2 : Int32))])) _
      refine XS.icmpNo X17.here hx rfl (hb hby at_79) rfl (teq ((by decide) : (2 : Int32) = (2 : Int32))).2 ?_
      show Steps p.tables e below (T17.setTop (mkF m 82 #[.val (.long p1), .second, .val (.long p2), .second, .val (.long p3), .second, .val (.long p5), .second, .val (.int p4), .val (.ref b1), .val (.int (2 : Int32)), .val (.long p1), .second, .val (.long p2), .second, .unset, .unset] [])) _
      refine XS.lload X17.here hx rfl (hb hby at_82) rfl ?_
      show Steps p.tables e below (T17.setTop (mkF m 84 #[.val (.long p1), .second, .val (.long p2), .second, .val (.long p3), .second, .val (.long p5), .second, .val (.int p4), .val (.ref b1), .val (.int (2 : Int32)), .val (.long p1), .second, .val (.long p2), .second, .unset, .unset] [(.long p5)])) _
      refine XS.goto X17.here hx rfl (pc0 := 84) (pc' := 89) rfl (hb hby at_84) (by decide) (by decide) ?_
      show Steps p.tables e below (T17.setTop (mkF m 89 #[.val (.long p1), .second, .val (.long p2), .second, .val (.long p3), .second, .val (.long p5), .second, .val (.int p4), .val (.ref b1), .val (.int (2 : Int32)), .val (.long p1), .second, .val (.long p2), .second, .unset, .unset] [(.long p5)])) _
      refine XS.lstore X17.here hx rfl (hb hby at_89) rfl (l' := #[.val (.long p1), .second, .val (.long p2), .second, .val (.long p3), .second, .val (.long p5), .second, .val (.int p4), .val (.ref b1), .val (.int (2 : Int32)), .val (.long p1), .second, .val (.long p2), .second, .val (.long p5), .second]) rfl ?_
      show Steps p.tables e below (T17.setTop (mkF m 91 #[.val (.long p1), .second, .val (.long p2), .second, .val (.long p3), .second, .val (.long p5), .second, .val (.int p4), .val (.ref b1), .val (.int (2 : Int32)), .val (.long p1), .second, .val (.long p2), .second, .val (.long p5), .second] [])) _
      refine XS.aload X17.here hx rfl (hb hby at_91) rfl rfl ?_
      show Steps p.tables e below (T17.setTop (mkF m 93 #[.val (.long p1), .second, .val (.long p2), .second, .val (.long p3), .second, .val (.long p5), .second, .val (.int p4), .val (.ref b1), .val (.int (2 : Int32)), .val (.long p1), .second, .val (.long p2), .second, .val (.long p5), .second] [(.ref b1)])) _
      refine XS.iconst X17.here hx rfl (hb hby at_93) ?_
      show Steps p.tables e below (T17.setTop (mkF m 94 #[.val (.long p1), .second, .val (.long p2), .second, .val (.long p3), .second, .val (.long p5), .second, .val (.int p4), .val (.ref b1), .val (.int (2 : Int32)), .val (.long p1), .second, .val (.long p2), .second, .val (.long p5), .second] [(.int (0 : Int32)), (.ref b1)])) _
      refine st18.trans ?_
      show Steps p.tables e below (T18.setTop (mkF m 97 #[.val (.long p1), .second, .val (.long p2), .second, .val (.long p3), .second, .val (.long p5), .second, .val (.int p4), .val (.ref b1), .val (.int (2 : Int32)), .val (.long p1), .second, .val (.long p2), .second, .val (.long p5), .second] [(.long p1)])) _
      refine XS.lload X18.here hx rfl (hb hby at_97) rfl ?_
      show Steps p.tables e below (T18.setTop (mkF m 99 #[.val (.long p1), .second, .val (.long p2), .second, .val (.long p3), .second, .val (.long p5), .second, .val (.int p4), .val (.ref b1), .val (.int (2 : Int32)), .val (.long p1), .second, .val (.long p2), .second, .val (.long p5), .second] [(.long p1), (.long p1)])) _
      refine XS.lcmp X18.here hx rfl (hb hby at_99) rfl ?_
      show Steps p.tables e below (T18.setTop (mkF m 100 #[.val (.long p1), .second, .val (.long p2), .second, .val (.long p3), .second, .val (.long p5), .second, .val (.int p4), .val (.ref b1), .val (.int (2 : Int32)), .val (.long p1), .second, .val (.long p2), .second, .val (.long p5), .second] [(.int (lcmpW p1 p1))])) _
      refine XS.ifNo X18.here hx rfl (hb hby at_100) rfl ((if0 _ _).trans (teq ((own_lc0 rfl) : (lcmpW p1 p1) = (0 : Int32))).2) ?_
      show Steps p.tables e below (T18.setTop (mkF m 103 #[.val (.long p1), .second, .val (.long p2), .second, .val (.long p3), .second, .val (.long p5), .second, .val (.int p4), .val (.ref b1), .val (.int (2 : Int32)), .val (.long p1), .second, .val (.long p2), .second, .val (.long p5), .second] [])) _
      refine XS.aload X18.here hx rfl (hb hby at_103) rfl rfl ?_
      show Steps p.tables e below (T18.setTop (mkF m 105 #[.val (.long p1), .second, .val (.long p2), .second, .val (.long p3), .second, .val (.long p5), .second, .val (.int p4), .val (.ref b1), .val (.int (2 : Int32)), .val (.long p1), .second, .val (.long p2), .second, .val (.long p5), .second] [(.ref b1)])) _
      refine XS.iconst X18.here hx rfl (hb hby at_105) ?_
      show Steps p.tables e below (T18.setTop (mkF m 106 #[.val (.long p1), .second, .val (.long p2), .second, .val (.long p3), .second, .val (.long p5), .second, .val (.int p4), .val (.ref b1), .val (.int (2 : Int32)), .val (.long p1), .second, .val (.long p2), .second, .val (.long p5), .second] [(.int (1 : Int32)), (.ref b1)])) _
      refine st19.trans ?_
      show Steps p.tables e below (T19.setTop (mkF m 109 #[.val (.long p1), .second, .val (.long p2), .second, .val (.long p3), .second, .val (.long p5), .second, .val (.int p4), .val (.ref b1), .val (.int (2 : Int32)), .val (.long p1), .second, .val (.long p2), .second, .val (.long p5), .second] [(.long p2)])) _
      refine XS.lload X19.here hx rfl (hb hby at_109) rfl ?_
      show Steps p.tables e below (T19.setTop (mkF m 111 #[.val (.long p1), .second, .val (.long p2), .second, .val (.long p3), .second, .val (.long p5), .second, .val (.int p4), .val (.ref b1), .val (.int (2 : Int32)), .val (.long p1), .second, .val (.long p2), .second, .val (.long p5), .second] [(.long p2), (.long p2)])) _
      refine XS.lcmp X19.here hx rfl (hb hby at_111) rfl ?_
      show Steps p.tables e below (T19.setTop (mkF m 112 #[.val (.long p1), .second, .val (.long p2), .second, .val (.long p3), .second, .val (.long p5), .second, .val (.int p4), .val (.ref b1), .val (.int (2 : Int32)), .val (.long p1), .second, .val (.long p2), .second, .val (.long p5), .second] [(.int (lcmpW p2 p2))])) _
      refine XS.ifNo X19.here hx rfl (hb hby at_112) rfl ((if0 _ _).trans (teq ((own_lc0 rfl) : (lcmpW p2 p2) = (0 : Int32))).2) ?_
      show Steps p.tables e below (T19.setTop (mkF m 115 #[.val (.long p1), .second, .val (.long p2), .second, .val (.long p3), .second, .val (.long p5), .second, .val (.int p4), .val (.ref b1), .val (.int (2 : Int32)), .val (.long p1), .second, .val (.long p2), .second, .val (.long p5), .second] [])) _
      refine XS.aload X19.here hx rfl (hb hby at_115) rfl rfl ?_
      show Steps p.tables e below (T19.setTop (mkF m 117 #[.val (.long p1), .second, .val (.long p2), .second, .val (.long p3), .second, .val (.long p5), .second, .val (.int p4), .val (.ref b1), .val (.int (2 : Int32)), .val (.long p1), .second, .val (.long p2), .second, .val (.long p5), .second] [(.ref b1)])) _
      refine XS.iconst X19.here hx rfl (hb hby at_117) ?_
      show Steps p.tables e below (T19.setTop (mkF m 118 #[.val (.long p1), .second, .val (.long p2), .second, .val (.long p3), .second, .val (.long p5), .second, .val (.int p4), .val (.ref b1), .val (.int (2 : Int32)), .val (.long p1), .second, .val (.long p2), .second, .val (.long p5), .second] [(.int (2 : Int32)), (.ref b1)])) _
      refine st20.trans ?_
      show Steps p.tables e below (T20.setTop (mkF m 121 #[.val (.long p1), .second, .val (.long p2), .second, .val (.long p3), .second, .val (.long p5), .second, .val (.int p4), .val (.ref b1), .val (.int (2 : Int32)), .val (.long p1), .second, .val (.long p2), .second, .val (.long p5), .second] [(.long p5)])) _
      refine XS.lload X20.here hx rfl (hb hby at_121) rfl ?_
      show Steps p.tables e below (T20.setTop (mkF m 123 #[.val (.long p1), .second, .val (.long p2), .second, .val (.long p3), .second, .val (.long p5), .second, .val (.int p4), .val (.ref b1), .val (.int (2 : Int32)), .val (.long p1), .second, .val (.long p2), .second, .val (.long p5), .second] [(.long p5), (.long p5)])) _
      refine XS.lcmp X20.here hx rfl (hb hby at_123) rfl ?_
      show Steps p.tables e below (T20.setTop (mkF m 124 #[.val (.long p1), .second, .val (.long p2), .second, .val (.long p3), .second, .val (.long p5), .second, .val (.int p4), .val (.ref b1), .val (.int (2 : Int32)), .val (.long p1), .second, .val (.long p2), .second, .val (.long p5), .second] [(.int (lcmpW p5 p5))])) _
      refine XS.ifNo X20.here hx rfl (hb hby at_124) rfl ((if0 _ _).trans (teq ((own_lc0 rfl) : (lcmpW p5 p5) = (0 : Int32))).2) ?_
      show Steps p.tables e below (T20.setTop (mkF m 127 #[.val (.long p1), .second, .val (.long p2), .second, .val (.long p3), .second, .val (.long p5), .second, .val (.int p4), .val (.ref b1), .val (.int (2 : Int32)), .val (.long p1), .second, .val (.long p2), .second, .val (.long p5), .second] [])) _
      refine XS.iconst X20.here hx rfl (hb hby at_127) ?_
      show Steps p.tables e below (T20.setTop (mkF m 128 #[.val (.long p1), .second, .val (.long p2), .second, .val (.long p3), .second, .val (.long p5), .second, .val (.int p4), .val (.ref b1), .val (.int (2 : Int32)), .val (.long p1), .second, .val (.long p2), .second, .val (.long p5), .second] [(.int (1 : Int32))])) _
      refine XS.goto X20.here hx rfl (pc0 := 128) (pc' := 132) rfl (hb hby at_128) (by decide) (by decide) ?_
      exact k)
    obtain ⟨fs, hr, hrun, hended, hW, hsame⟩ := X20.leave (v := some (.int (nar .boolean (1 : Int32)))) (fun h => by rw [Bd.returns] at h; cases h)
    refine ⟨_, _, pre21 _ ?_, hrun, hended, _, _, rfl, ?_, ⟨_, rfl⟩, hW, hsame.mono (by decide) (by decide)⟩
    · show Steps p.tables e below (T20.setTop (mkF m 132 #[.val (.long p1), .second, .val (.long p2), .second, .val (.long p3), .second, .val (.long p5), .second, .val (.int p4), .val (.ref b1), .val (.int (2 : Int32)), .val (.long p1), .second, .val (.long p2), .second, .val (.long p5), .second] [(.int (1 : Int32))])) _
      exact retN X20 hx (t := .boolean) Bd.returns (by simp) (hb hby at_132) hr
    · show QL n0 _ T20.heap _
      rw [e20]
      exact ⟨rfl, N20⟩
set_option maxRecDepth 65536 in
set_option maxHeartbeats 40000000 in
theorem comes_1 {Post : Tables → Env → Array Value → State → Outcome → State → Prop} (hpost : ∀ tb e args s v u, (limb_1_1.after args s (.returned v) u = true ∧ limb_1_2.after args s (.returned v) u = true ∧ True) → FrameEnd s (.returned v) u (Jvm.fieldLocs frame_1_writes args s ++ Jvm.arrayLocs frame_1_arrays args s ++ Jvm.staticLocs frame_1_statics s) 16 384 → Post tb e args s (.returned v) u) :
    ArmFor flags0 classFile x code maxLocals ret World_1 tables_1 room_1 Calls_1 rest_1 Pre_1 Post := by
  intro l hfl _ _ p e ha hc hk s m args below hf hA hF happ hP
  obtain ⟨hcalls, hrest, hpre⟩ := hP
  obtain ⟨-, -, -, hnamed, -, -, -, hat⟩ := (Spec.applies_iff hf).mp happ
  obtain ⟨hg, hn⟩ := and_e (Cond.before_iff.mp (show (Jvm.Cond.and given_1 narrow_1).before args s = true from hpre))
  obtain ⟨gc, gr0⟩ := and_e hg
  obtain ⟨ga0, gr1⟩ := and_e gr0
  obtain ⟨ga1, gr2⟩ := and_e gr1
  obtain ⟨ga2, gr3⟩ := and_e gr2
  obtain ⟨ga3, gr4⟩ := and_e gr3
  have ga4 := gr4
  obtain ⟨w0, w1, w2, w3, w4, rfl⟩ : ∃ w0 w1 w2 w3 w4 : Value, args = #[w0, w1, w2, w3, w4] := by
    have hs : args.size = 5 := by simpa [Cond.value, given_1] using gc
    obtain ⟨L⟩ := args
    match L, hs with
    | [w0, w1, w2, w3, w4], _ => exact ⟨w0, w1, w2, w3, w4, rfl⟩
  have hw := fun d (hd : d ∈ tables_1) => atoms_spec (ws := Jvm.Cond.code x code maxLocals ret :: tables_1) hat d (List.mem_cons_of_mem _ hd)
  have hfit : Fit s := fun {y c} hc i hi => by
    obtain ⟨ha, rfl⟩ := Array.getElem?_eq_some_iff.mp hc
    have q := List.all_eq_true.mp ((Array.all_eq_true_iff_forall_mem.mp hF) _ (Array.getElem_mem ha)) i (List.mem_range.mpr hi)
    simpa [Array.getElem?_eq_getElem hi] using q
  obtain ⟨i0, ei0⟩ := isL_v ga0
  obtain rfl : w0 = (.long i0) := Option.some.inj ei0
  obtain ⟨i1, ei1⟩ := isL_v ga1
  obtain rfl : w1 = (.long i1) := Option.some.inj ei1
  obtain ⟨i2, ei2⟩ := isL_v ga2
  obtain rfl : w2 = (.long i2) := Option.some.inj ei2
  obtain ⟨i3, ei3⟩ := isL_v ga3
  obtain rfl : w3 = (.long i3) := Option.some.inj ei3
  obtain ⟨i4, ei4⟩ := is_v ga4
  obtain rfl : w4 = (.int i4) := Option.some.inj ei4
  obtain ⟨n, o, h1, h2, h3, _, L, rfl, ⟨rfl, N⟩, hq⟩ := rm0 l s _ hw tables_1 i0 i1 i2 i3 i4  s.heap s.heap.size (Nat.le_refl _)  p e ha hc hk s m _ below hf ((Spec.applies_iff_loose hf).mp happ).1 ⟨rfl, State.Warmed39.refl s, rfl⟩ trivial
  refine ⟨n, _, h1, h2, h3, hpost _ _ _ _ _ _ ⟨Cond.after_iff.mpr rfl, Cond.after_iff.mpr (eq_i res_at (Term.int_eval (1)) rfl), trivial⟩ ⟨hq.1, hq.2.1, (hq.2.2.sift fun y hy => Or.inr (N y hy)).mono (by decide) (by decide)⟩⟩
theorem main_1_1 : Claimed_1_1 := comes_1 fun _ _ _ _ _ _ h hF => ⟨h.1, hF⟩
theorem main_1_2 : Claimed_1_2 := comes_1 fun _ _ _ _ _ _ h hF => ⟨h.2.1, hF⟩
end Jvm.Pilot.@@N@@
namespace Jvm.Pilot.@@N@@
open Jvm Jvm.ClassFile Sem Op Lib Jvm.Free Jvm.Stand Jvm.Pilot.@@N@@.Jvm.D
/-! MADE BY PROGRAM (witnessworld.py) out of the Statement's table words and the real class files: 11 classes; the members and pool entries that the words name. The judged class is class 1, her method 1. -/
namespace start1
open Jvm.ClassFile
def u (s : String) : CpInfo := .utf8 (stringToUtf16 s)
/-- a pool by its gaps: so many unusable entries, then the entry; so many at the end -/
def gap : Nat → List CpInfo → List CpInfo
  | 0, r => r
  | n + 1, r => .unusable :: gap n r
def poolList (es : List (Nat × CpInfo)) (last : Nat) : List CpInfo := es.foldr (fun e r => gap e.1 (e.2 :: r)) (gap last [])
def pool (es : List (Nat × CpInfo)) (last : Nat) : Array CpInfo := ⟨poolList es last⟩
def fileOf (pool : Array CpInfo) (this : Nat) (attrs : Array Attribute := #[]) (ms : Array MethodInfo := #[]) (fl : Nat := 33) (sup : Nat := 0) (ifs : Array Nat := #[]) (fds : Array FieldInfo := #[]) : ClassFile where
  minorVersion := 0
  majorVersion := 65
  constantPool := pool
  accessFlags := fl
  thisClass := this
  superClass := sup
  interfaces := ifs
  fields := fds
  methods := ms
  attributes := attrs
def plain (name : String) (sup : Option ClassId) : Class where
  name := name
  kind := .ordinary
  loader := none
  accessFlags := 33
  super := sup
  interfaces := #[]
  cf := none
  fields := #[]
  methods := #[]
  instanceTypes := #[]
  staticTypes := #[]
  resolved := #[]
  callSites := []
  init := .initialized
  statics := none
  mirror := none

def pool0 : Array CpInfo := pool [(5, u "<init>"), (0, u "()V"), (1, .class_ 10), (1, u "java/lang/Object")] 113

def k0c0 : Code := { maxStack := 0, maxLocals := 1, code := object_method_1_code, exceptionTable := #[], attributes := #[] }
def k0m0 : Method := { name := "<init>", desc := "()V", sig := { parameters := [], returnType := none }, accessFlags := 1, code := some k0c0 }
/-- java/lang/Object -/
def k0 : Class := { plain "java/lang/Object" none with
  accessFlags := 33
  interfaces := #[]
  cf := some (fileOf pool0 8 #[] #[{ accessFlags := 1, nameIndex := 5, descriptorIndex := 6, attributes := #[] }] 33 0 #[] #[])
  fields := #[]
  methods := #[k0m0]
  instanceTypes := #[]
  staticTypes := #[]
  resolved := Array.replicate 124 none
  statics := none }

def pool1 : Array CpInfo := pool [(2, .class_ 4), (0, .nameAndType 5 6), (0, u "java/lang/Object"), (0, u "<init>"), (0, u "()V"), (0, .class_ 8), (0, u "com/example/sameshape/sameshape/diff/LongColumn"), (0, .methodref 7 3), (0, .methodref 7 11), (0, .nameAndType 12 13), (0, u "add"), (0, u "(J)I"), (0, .integer 2147483647), (0, .methodref 7 16), (0, .nameAndType 17 18), (0, u "set"), (0, u "(IJ)V"), (0, .methodref 7 20), (0, .nameAndType 21 22), (0, u "get"), (0, u "(I)J"), (0, .class_ 24), (0, u "com/example/sameshape/sameshape/diff/LongColumnSetPinLaw"), (2, u "law"), (0, u "(JJJJI)Z")] 3

def k1m0 : Method := { name := "<init>", desc := "()V", sig := { parameters := [], returnType := none }, accessFlags := 1, code := none }
def k1c1 : Code := { maxStack := 4, maxLocals := 17, code := code, exceptionTable := #[], attributes := #[] }
def k1m1 : Method := { name := "law", desc := "(JJJJI)Z", sig := { parameters := [.long, .long, .long, .long, .int], returnType := some .boolean }, accessFlags := 9, code := some k1c1 }
/-- com/example/sameshape/sameshape/diff/LongColumnSetPinLaw -/
def k1 : Class := { plain "com/example/sameshape/sameshape/diff/LongColumnSetPinLaw" (some 0) with
  accessFlags := 49
  interfaces := #[]
  cf := some (fileOf pool1 23 #[] #[{ accessFlags := 1, nameIndex := 5, descriptorIndex := 6, attributes := #[] }, { accessFlags := 9, nameIndex := 27, descriptorIndex := 28, attributes := #[] }] 49 2 #[] #[])
  fields := #[]
  methods := #[k1m0, k1m1]
  instanceTypes := #[]
  staticTypes := #[]
  resolved := Array.replicate 32 none
  statics := none }

def pool2 : Array CpInfo := pool [(1, .class_ 2), (0, u "com/example/sameshape/sameshape/diff/LongColumn"), (0, .methodref 4 5), (0, .class_ 6), (0, .nameAndType 7 8), (0, u "java/lang/Object"), (0, u "<init>"), (0, u "()V"), (0, .class_ 10), (0, u "[J"), (0, .fieldref 1 12), (0, .nameAndType 13 14), (0, u "blocks"), (0, u "[[J"), (0, .fieldref 1 16), (0, .nameAndType 17 18), (0, u "size"), (0, u "I"), (2, .integer 2147483647), (17, u "BLOCK_BITS"), (2, u "BLOCK_SIZE"), (1, u "IN_BLOCK"), (1, u "FIRST_BLOCK_SIZE"), (3, u "add"), (0, u "(J)I"), (1, u "get"), (0, u "(I)J"), (0, u "set"), (0, u "(IJ)V")] 2

def k2c0 : Code := { maxStack := 2, maxLocals := 1, code := prog_25_method_1_code, exceptionTable := #[], attributes := #[] }
def k2m0 : Method := { name := "<init>", desc := "()V", sig := { parameters := [], returnType := none }, accessFlags := 1, code := some k2c0 }
def k2c1 : Code := { maxStack := 5, maxLocals := 5, code := prog_25_method_2_code, exceptionTable := #[], attributes := #[] }
def k2m1 : Method := { name := "add", desc := "(J)I", sig := { parameters := [.long], returnType := some .int }, accessFlags := 1, code := some k2c1 }
def k2c2 : Code := { maxStack := 3, maxLocals := 2, code := prog_25_method_3_code, exceptionTable := #[], attributes := #[] }
def k2m2 : Method := { name := "get", desc := "(I)J", sig := { parameters := [.int], returnType := some .long }, accessFlags := 1, code := some k2c2 }
def k2c3 : Code := { maxStack := 4, maxLocals := 4, code := prog_25_method_4_code, exceptionTable := #[], attributes := #[] }
def k2m3 : Method := { name := "set", desc := "(IJ)V", sig := { parameters := [.int, .long], returnType := none }, accessFlags := 1, code := some k2c3 }
/-- com/example/sameshape/sameshape/diff/LongColumn -/
def k2 : Class := { plain "com/example/sameshape/sameshape/diff/LongColumn" (some 0) with
  accessFlags := 49
  interfaces := #[]
  cf := some (fileOf pool2 1 #[] #[{ accessFlags := 1, nameIndex := 7, descriptorIndex := 8, attributes := #[] }, { accessFlags := 1, nameIndex := 50, descriptorIndex := 51, attributes := #[] }, { accessFlags := 1, nameIndex := 53, descriptorIndex := 54, attributes := #[] }, { accessFlags := 1, nameIndex := 55, descriptorIndex := 56, attributes := #[] }] 49 4 #[] #[{ accessFlags := 26, nameIndex := 39, descriptorIndex := 18, attributes := #[] }, { accessFlags := 26, nameIndex := 42, descriptorIndex := 18, attributes := #[] }, { accessFlags := 26, nameIndex := 44, descriptorIndex := 18, attributes := #[] }, { accessFlags := 26, nameIndex := 46, descriptorIndex := 18, attributes := #[] }, { accessFlags := 2, nameIndex := 13, descriptorIndex := 14, attributes := #[] }, { accessFlags := 2, nameIndex := 17, descriptorIndex := 18, attributes := #[] }])
  fields := #[{ name := "BLOCK_BITS", type := .int, accessFlags := 26, slot := 0, constantValue := 0 }, { name := "BLOCK_SIZE", type := .int, accessFlags := 26, slot := 1, constantValue := 0 }, { name := "IN_BLOCK", type := .int, accessFlags := 26, slot := 2, constantValue := 0 }, { name := "FIRST_BLOCK_SIZE", type := .int, accessFlags := 26, slot := 3, constantValue := 0 }, { name := "blocks", type := (.array (.array .long)), accessFlags := 2, slot := 0, constantValue := 0 }, { name := "size", type := .int, accessFlags := 2, slot := 1, constantValue := 0 }]
  methods := #[k2m0, k2m1, k2m2, k2m3]
  instanceTypes := #[(.array (.array .long)), .int]
  staticTypes := #[.int, .int, .int, .int]
  resolved := Array.replicate 59 none
  statics := none }

def pool3 : Array CpInfo := pool [(1, u "java/lang/Cloneable"), (0, .class_ 1), (0, u "java/lang/Object"), (0, .class_ 3)] 3

/-- java/lang/Cloneable -/
def k3 : Class := { plain "java/lang/Cloneable" (some 0) with
  accessFlags := 1537
  interfaces := #[]
  cf := some (fileOf pool3 2 #[] #[] 1537 4 #[] #[])
  fields := #[]
  methods := #[]
  instanceTypes := #[]
  staticTypes := #[]
  resolved := Array.replicate 8 none
  statics := none }

def pool4 : Array CpInfo := pool [(1, u "java/io/Serializable"), (0, .class_ 1), (0, u "java/lang/Object"), (0, .class_ 3)] 3

/-- java/io/Serializable -/
def k4 : Class := { plain "java/io/Serializable" (some 0) with
  accessFlags := 1537
  interfaces := #[]
  cf := some (fileOf pool4 2 #[] #[] 1537 4 #[] #[])
  fields := #[]
  methods := #[]
  instanceTypes := #[]
  staticTypes := #[]
  resolved := Array.replicate 8 none
  statics := none }

/-- the primitive byte -/
def k5 : Class := { plain "byte" none with kind := .primitive 'B', accessFlags := 0x411 }
/-- [B -/
def k6 : Class := { plain "[B" (some 0) with kind := .array 5 .byte, interfaces := #[3, 4], accessFlags := 1041 }

/-- the primitive int -/
def k7 : Class := { plain "int" none with kind := .primitive 'I', accessFlags := 0x411 }
/-- [I -/
def k8 : Class := { plain "[I" (some 0) with kind := .array 7 .int, interfaces := #[3, 4], accessFlags := 1041 }

/-- the primitive long -/
def k9 : Class := { plain "long" none with kind := .primitive 'J', accessFlags := 0x411 }
/-- [J -/
def k10 : Class := { plain "[J" (some 0) with kind := .array 9 .long, interfaces := #[3, 4], accessFlags := 1041 }

def heap : Heap := #[]
def k11 : Class := { plain "[[J" (some 0) with kind := .array 10 (.array .long), interfaces := #[3, 4], accessFlags := 1041 }
def classes : Array Class := #[k0, k1, k2, k3, k4, k5, k6, k7, k8, k9, k10, k11]
def interned : List (Array UInt16 × Addr) := []
def slotsUsed : Nat := 0
def theMethod : MethodId := ⟨1, 1⟩
def args0 : Array Value := #[.long 5, .long 6, .long 7, .long 8, .int 4]
def aboutOver (below : List Frame) : State where
  vm := { classes := classes, interned := interned.toArray }
  heap := heap
  slotsUsed := slotsUsed
  threads := #[{ frames := .invoking theMethod args0 :: below }]
def below0 : List Frame := [.native { method := ⟨0, 0⟩, args := #[] }]
def about1 : State := aboutOver below0
def p0 : Program := .bare "" "" ""
def e0 : Env := launch0.env 0 0 0
theorem w_frames : about1.frames = Frame.invoking theMethod args0 :: below0 := rfl
set_option maxRecDepth 65536 in
theorem w_args : argsFit about1.vm theMethod args0 = true := by decide +kernel
set_option maxRecDepth 65536 in
theorem w_heap : heapFits about1 = true := by decide +kernel
set_option maxRecDepth 65536 in
theorem w_runnable : about1.curStatus? = some .runnable := by decide +kernel
set_option maxRecDepth 65536 in
theorem w_alone : about1.alone = true := by decide +kernel
set_option maxRecDepth 65536 in
theorem w_named : about1.methodNamed? x = some theMethod := by decide +kernel
set_option maxRecDepth 65536 in
theorem w_hears : about1.hears theMethod below0 = true := by decide +kernel
set_option maxRecDepth 65536 in
theorem w_ripe : about1.ripe theMethod args0 below0 = true := by decide +kernel
theorem w_running : about1.status = .running := rfl
set_option maxRecDepth 65536 in
theorem w_room : about1.hasRoom e0.platform room_1 = true :=
  launch0.hasRoom_least _ room_1 (by decide +kernel) (by decide +kernel) (by decide +kernel) (by decide +kernel) (by decide +kernel) (by decide +kernel)
theorem allAtoms_all (ts : List Jvm.Cond) (a : Array Jvm.Value) (st : Jvm.State) : (allAtoms ts).before a st = ts.all (fun c => c.before a st) := by
  induction ts with
  | nil => rfl
  | cons c t ih =>
    show (Jvm.Cond.and c (allAtoms t)).before a st = _
    rw [Jvm.Cond.before_and, ih, List.all_cons]
def words1 : List Jvm.Cond := Jvm.Cond.code x code maxLocals ret :: tables_1
/-- a 'code' word, met by the world's own term for the bytes: nothing is compared byte by byte -/
theorem code_word {y : MethodName} {bytes : ByteArray} {mx : Nat} {rt : Option FieldType} {a : Array Value} {s : State} {m : MethodId} {meth : Method} {c : Code} (h1 : s.methodNamed? y = some m) (h2 : s.vm.method? m = some meth) (h3 : meth.code = some c) (h4 : c.code = bytes)
    (h5 : (c.maxLocals == mx && c.exceptionTable.isEmpty && decide (c.maxStack ≤ mostOperands) && decide (meth.sig.returnType = rt) && !meth.locks && decide (parseMethodDescriptor y.desc = some meth.sig)) = true) : (Jvm.Cond.code y bytes mx rt).before a s = true := by
  simp only [Bool.and_eq_true, beq_iff_eq, Bool.not_eq_true', decide_eq_true_eq] at h5
  obtain ⟨⟨⟨⟨⟨g1, g2⟩, g3⟩, g4⟩, g5⟩, g6⟩ := h5
  simp [Cond.before, Cond.holds, Cond.value, h1, h2, h3, h4, g1, g2, g3, g4, g5, g6]
def isCode : Jvm.Cond → Bool
  | .code _ _ _ _ => true
  | _ => false
theorem all_split {L : List Jvm.Cond} {P : Jvm.Cond → Bool} (h1 : L.all (fun c => isCode c || P c) = true) (h2 : ∀ c ∈ L.filter isCode, P c = true) : L.all P = true := by
  refine List.all_eq_true.mpr fun c hc => ?_
  have h := List.all_eq_true.mp h1 c hc
  rcases Bool.eq_false_or_eq_true (isCode c) with hi | hi
  · exact h2 c (List.mem_filter.mpr ⟨hc, hi⟩)
  · simpa [hi] using h
set_option maxRecDepth 65536 in
theorem w_c0 : (Jvm.Cond.code x code maxLocals ret).before args0 about1 = true := code_word (m := ⟨1, 1⟩) (meth := k1m1) (c := k1c1) (by decide +kernel) rfl rfl rfl (by decide +kernel)
set_option maxRecDepth 65536 in
theorem w_c1 : (Jvm.Cond.code ({ cls := "com/example/sameshape/sameshape/diff/LongColumn", name := "<init>", desc := "()V" } : Jvm.MethodName) prog_25_method_1_code (1 : Nat) (Option.none : Option Jvm.ClassFile.FieldType)).before args0 about1 = true := code_word (m := ⟨2, 0⟩) (meth := k2m0) (c := k2c0) (by decide +kernel) rfl rfl rfl (by decide +kernel)
set_option maxRecDepth 65536 in
theorem w_c2 : (Jvm.Cond.code ({ cls := "java/lang/Object", name := "<init>", desc := "()V" } : Jvm.MethodName) object_method_1_code (1 : Nat) (Option.none : Option Jvm.ClassFile.FieldType)).before args0 about1 = true := code_word (m := ⟨0, 0⟩) (meth := k0m0) (c := k0c0) (by decide +kernel) rfl rfl rfl (by decide +kernel)
set_option maxRecDepth 65536 in
theorem w_c3 : (Jvm.Cond.code ({ cls := "com/example/sameshape/sameshape/diff/LongColumn", name := "add", desc := "(J)I" } : Jvm.MethodName) prog_25_method_2_code (5 : Nat) (Option.some Jvm.ClassFile.FieldType.int)).before args0 about1 = true := code_word (m := ⟨2, 1⟩) (meth := k2m1) (c := k2c1) (by decide +kernel) rfl rfl rfl (by decide +kernel)
set_option maxRecDepth 65536 in
theorem w_c4 : (Jvm.Cond.code ({ cls := "com/example/sameshape/sameshape/diff/LongColumn", name := "set", desc := "(IJ)V" } : Jvm.MethodName) prog_25_method_4_code (4 : Nat) (Option.none : Option Jvm.ClassFile.FieldType)).before args0 about1 = true := code_word (m := ⟨2, 3⟩) (meth := k2m3) (c := k2c3) (by decide +kernel) rfl rfl rfl (by decide +kernel)
set_option maxRecDepth 65536 in
theorem w_c5 : (Jvm.Cond.code ({ cls := "com/example/sameshape/sameshape/diff/LongColumn", name := "get", desc := "(I)J" } : Jvm.MethodName) prog_25_method_3_code (2 : Nat) (Option.some Jvm.ClassFile.FieldType.long)).before args0 about1 = true := code_word (m := ⟨2, 2⟩) (meth := k2m2) (c := k2c2) (by decide +kernel) rfl rfl rfl (by decide +kernel)
def codes1 : List Jvm.Cond := [Jvm.Cond.code x code maxLocals ret, Jvm.Cond.code ({ cls := "com/example/sameshape/sameshape/diff/LongColumn", name := "<init>", desc := "()V" } : Jvm.MethodName) prog_25_method_1_code (1 : Nat) (Option.none : Option Jvm.ClassFile.FieldType), Jvm.Cond.code ({ cls := "java/lang/Object", name := "<init>", desc := "()V" } : Jvm.MethodName) object_method_1_code (1 : Nat) (Option.none : Option Jvm.ClassFile.FieldType), Jvm.Cond.code ({ cls := "com/example/sameshape/sameshape/diff/LongColumn", name := "add", desc := "(J)I" } : Jvm.MethodName) prog_25_method_2_code (5 : Nat) (Option.some Jvm.ClassFile.FieldType.int), Jvm.Cond.code ({ cls := "com/example/sameshape/sameshape/diff/LongColumn", name := "set", desc := "(IJ)V" } : Jvm.MethodName) prog_25_method_4_code (4 : Nat) (Option.none : Option Jvm.ClassFile.FieldType), Jvm.Cond.code ({ cls := "com/example/sameshape/sameshape/diff/LongColumn", name := "get", desc := "(I)J" } : Jvm.MethodName) prog_25_method_3_code (2 : Nat) (Option.some Jvm.ClassFile.FieldType.long)]
set_option maxRecDepth 65536 in
theorem codes_eq : words1.filter isCode = codes1 := rfl
theorem w_codes : ∀ c ∈ words1.filter isCode, c.before args0 about1 = true := by
  rw [codes_eq]
  intro c hc
  simp only [codes1, List.mem_cons, List.not_mem_nil, or_false] at hc
  rcases hc with rfl | rfl | rfl | rfl | rfl | rfl
  · exact w_c0
  · exact w_c1
  · exact w_c2
  · exact w_c3
  · exact w_c4
  · exact w_c5
set_option maxRecDepth 65536 in
theorem w_t1 : (words1.take 24).all (fun c => isCode c || c.before args0 about1) = true := by decide +kernel
set_option maxRecDepth 65536 in
theorem w_t2 : (words1.drop 24).all (fun c => isCode c || c.before args0 about1) = true := by decide +kernel
theorem w_tables : (allAtoms (Jvm.Cond.code x code maxLocals ret :: tables_1)).before args0 about1 = true := by
  rw [allAtoms_all]
  show words1.all (fun c => c.before args0 about1) = true
  refine all_split ?_ w_codes
  rw [← List.take_append_drop 24 words1, List.all_append, w_t1, w_t2]
  rfl
set_option maxRecDepth 65536 in
theorem w_case : (Jvm.Cond.and given_1 narrow_1).before args0 about1 = true := by decide +kernel
theorem w_applies : (headSpec (Jvm.Cond.code x code maxLocals ret :: tables_1) room_1).applies x e0.platform about1 = true :=
  (Spec.applies_iff w_frames).mpr ⟨w_running, w_runnable, w_alone, w_named, w_hears, w_ripe, w_room, w_tables⟩
theorem atStart : AtStart classFile x code maxLocals ret World_1 tables_1 room_1 Calls_1 rest_1 Pre_1 launch0 p0 e0 about1 theMethod args0 below0 :=
  ⟨lists_1, trivial, launch0.admits_env _ _ _, launch0.least_env, fairChoices_fair.cas, fairChoices_fair.clock, w_frames, w_args, w_heap, w_applies, trivial, trivial, w_case⟩
end start1
theorem witness_1 : WitnessClaimed_1 := ⟨start1.p0, start1.e0, start1.about1, start1.theMethod, start1.args0, start1.below0, start1.atStart⟩
end Jvm.Pilot.@@N@@
