import JvmDerived
import JvmDerived.Pilot.@@N@@Statement
import JvmDerived.Pilot.@@N@@Code
set_option linter.unusedVariables false
set_option linter.unusedSimpArgs false
@@BLOCK:NumsL.lean.txt@@
namespace Jvm.RoadKit
open Sem ClassFile Op Lib Jvm.Stand Jvm.Free Jvm.LawKit
section New
variable {p : Program} {l : Launch} {e : Env} {R : Room} {s : State} {m : MethodId} {args : Array Value} {below : List Frame} {meth : Method} {c : Code} {T : State} {locs : List Loc} {cells slots : Nat}
theorem retI (X : Stand p l e R s m args below meth c T locs cells slots) (hx : p.tables.exec = Jvm.exec) {pc : Nat} {Ls : Array Slot} {z : Int32} {rest : List Value} (hret : meth.sig.returnType = some .int) (hd : decode c.code pc = .ok (.ireturn, 1)) {fs : List Frame}
    (hl : ∀ (f : JFrame) (acts : List Action), f.method = m → f.locked = none → f.entered = [] → (doReturn e (T.setTop f) acts (some (.int z))).1 = T.setFrames fs) : Steps p.tables e below (T.setTop (mkF m pc Ls (.int z :: rest))) (T.setFrames fs) := by
  have hm' : T.vm.method? m = some meth := X.method'
  have hn : narrow .int (.int z) = .int z := rfl
  show Steps p.tables e below (T.setTop { method := m, pc := pc, locals := Ls, stack := _ :: rest, locked := none }) _
  jvm_step X.here [X.here.top, hx, hd, hm', hret, hn]
  first | (intro acts; rw [hl _ acts rfl rfl rfl]) | rw [hl _ _ rfl rfl rfl]
  exact Steps.refl _
end New
end Jvm.RoadKit
namespace Jvm.Pilot.@@N@@
open Jvm Jvm.ClassFile Sem Op Lib Jvm.Free Jvm.Stand Jvm.LawKit Jvm.RoadKit Bundle Jvm.Pilot.@@N@@.Jvm.D
/-- a body that returns r, makes and writes nothing -/
def QN (h0 : Heap) (n0 : Nat) (v : Option Value) (h : Heap) (L : List Loc) : Prop := v = none ∧ Fr n0 L ∧ h = h0
def QP (r : Value) (h0 : Heap) (n0 : Nat) (v : Option Value) (h : Heap) (L : List Loc) : Prop := v = some r ∧ Fr n0 L ∧ h = h0
theorem own_d_prog_104_method_1_code_0 : decode prog_104_method_1_code 0 = .ok (.aload_n 0, 1) := by decide +kernel
theorem own_d_prog_104_method_1_code_1 : decode prog_104_method_1_code 1 = .ok (.invokespecial 1, 3) := by decide +kernel
theorem own_d_prog_104_method_1_code_4 : decode prog_104_method_1_code 4 = .ok (.aload_n 0, 1) := by decide +kernel
theorem own_d_prog_104_method_1_code_5 : decode prog_104_method_1_code 5 = .ok (.iload_n 2, 1) := by decide +kernel
theorem own_d_prog_104_method_1_code_6 : decode prog_104_method_1_code 6 = .ok (.putfield 7, 3) := by decide +kernel
theorem own_d_prog_104_method_1_code_9 : decode prog_104_method_1_code 9 = .ok (.aload_n 0, 1) := by decide +kernel
theorem own_d_prog_104_method_1_code_10 : decode prog_104_method_1_code 10 = .ok (.iload_n 1, 1) := by decide +kernel
theorem own_d_prog_104_method_1_code_11 : decode prog_104_method_1_code 11 = .ok (.iload_n 2, 1) := by decide +kernel
theorem own_d_prog_104_method_1_code_12 : decode prog_104_method_1_code 12 = .ok (.imul, 1) := by decide +kernel
theorem own_d_prog_104_method_1_code_13 : decode prog_104_method_1_code 13 = .ok (.newarray .double, 2) := by decide +kernel
theorem own_d_prog_104_method_1_code_15 : decode prog_104_method_1_code 15 = .ok (.putfield 13, 3) := by decide +kernel
theorem own_d_prog_104_method_1_code_18 : decode prog_104_method_1_code 18 = .ok (.aload_n 0, 1) := by decide +kernel
theorem own_d_prog_104_method_1_code_19 : decode prog_104_method_1_code 19 = .ok (.iload_n 1, 1) := by decide +kernel
theorem own_d_prog_104_method_1_code_20 : decode prog_104_method_1_code 20 = .ok (.iload_n 2, 1) := by decide +kernel
theorem own_d_prog_104_method_1_code_21 : decode prog_104_method_1_code 21 = .ok (.imul, 1) := by decide +kernel
theorem own_d_prog_104_method_1_code_22 : decode prog_104_method_1_code 22 = .ok (.newarray .int, 2) := by decide +kernel
theorem own_d_prog_104_method_1_code_24 : decode prog_104_method_1_code 24 = .ok (.putfield 17, 3) := by decide +kernel
theorem own_d_prog_104_method_1_code_27 : decode prog_104_method_1_code 27 = .ok (.return_, 1) := by decide +kernel
theorem own_d_prog_104_method_2_code_0 : decode prog_104_method_2_code 0 = .ok (.aload_n 0, 1) := by decide +kernel
theorem own_d_prog_104_method_2_code_1 : decode prog_104_method_2_code 1 = .ok (.getfield 13, 3) := by decide +kernel
theorem own_d_prog_104_method_2_code_4 : decode prog_104_method_2_code 4 = .ok (.iload_n 2, 1) := by decide +kernel
theorem own_d_prog_104_method_2_code_5 : decode prog_104_method_2_code 5 = .ok (.aload_n 0, 1) := by decide +kernel
theorem own_d_prog_104_method_2_code_6 : decode prog_104_method_2_code 6 = .ok (.getfield 7, 3) := by decide +kernel
theorem own_d_prog_104_method_2_code_9 : decode prog_104_method_2_code 9 = .ok (.imul, 1) := by decide +kernel
theorem own_d_prog_104_method_2_code_10 : decode prog_104_method_2_code 10 = .ok (.iload_n 1, 1) := by decide +kernel
theorem own_d_prog_104_method_2_code_11 : decode prog_104_method_2_code 11 = .ok (.iadd, 1) := by decide +kernel
theorem own_d_prog_104_method_2_code_12 : decode prog_104_method_2_code 12 = .ok (.dload 4, 2) := by decide +kernel
theorem own_d_prog_104_method_2_code_14 : decode prog_104_method_2_code 14 = .ok (.dastore, 1) := by decide +kernel
theorem own_d_prog_104_method_2_code_15 : decode prog_104_method_2_code 15 = .ok (.aload_n 0, 1) := by decide +kernel
theorem own_d_prog_104_method_2_code_16 : decode prog_104_method_2_code 16 = .ok (.getfield 17, 3) := by decide +kernel
theorem own_d_prog_104_method_2_code_19 : decode prog_104_method_2_code 19 = .ok (.iload_n 2, 1) := by decide +kernel
theorem own_d_prog_104_method_2_code_20 : decode prog_104_method_2_code 20 = .ok (.aload_n 0, 1) := by decide +kernel
theorem own_d_prog_104_method_2_code_21 : decode prog_104_method_2_code 21 = .ok (.getfield 7, 3) := by decide +kernel
theorem own_d_prog_104_method_2_code_24 : decode prog_104_method_2_code 24 = .ok (.imul, 1) := by decide +kernel
theorem own_d_prog_104_method_2_code_25 : decode prog_104_method_2_code 25 = .ok (.iload_n 1, 1) := by decide +kernel
theorem own_d_prog_104_method_2_code_26 : decode prog_104_method_2_code 26 = .ok (.iadd, 1) := by decide +kernel
theorem own_d_prog_104_method_2_code_27 : decode prog_104_method_2_code 27 = .ok (.iload_n 3, 1) := by decide +kernel
theorem own_d_prog_104_method_2_code_28 : decode prog_104_method_2_code 28 = .ok (.iastore, 1) := by decide +kernel
theorem own_d_prog_104_method_2_code_29 : decode prog_104_method_2_code 29 = .ok (.return_, 1) := by decide +kernel
theorem own_d_prog_104_method_3_code_0 : decode prog_104_method_3_code 0 = .ok (.dconst 0, 1) := by decide +kernel
theorem own_d_prog_104_method_3_code_1 : decode prog_104_method_3_code 1 = .ok (.dstore_n 3, 1) := by decide +kernel
theorem own_d_prog_104_method_3_code_2 : decode prog_104_method_3_code 2 = .ok (.iload_n 1, 1) := by decide +kernel
theorem own_d_prog_104_method_3_code_3 : decode prog_104_method_3_code 3 = .ok (.istore 5, 2) := by decide +kernel
theorem own_d_prog_104_method_3_code_5 : decode prog_104_method_3_code 5 = .ok (.iload 5, 2) := by decide +kernel
theorem own_d_prog_104_method_3_code_7 : decode prog_104_method_3_code 7 = .ok (.aload_n 0, 1) := by decide +kernel
theorem own_d_prog_104_method_3_code_8 : decode prog_104_method_3_code 8 = .ok (.getfield 17, 3) := by decide +kernel
theorem own_d_prog_104_method_3_code_11 : decode prog_104_method_3_code 11 = .ok (.arraylength, 1) := by decide +kernel
theorem own_d_prog_104_method_3_code_12 : decode prog_104_method_3_code 12 = .ok (.if_icmp .ge 36, 3) := by decide +kernel
theorem own_d_prog_104_method_3_code_15 : decode prog_104_method_3_code 15 = .ok (.aload_n 0, 1) := by decide +kernel
theorem own_d_prog_104_method_3_code_16 : decode prog_104_method_3_code 16 = .ok (.getfield 17, 3) := by decide +kernel
theorem own_d_prog_104_method_3_code_19 : decode prog_104_method_3_code 19 = .ok (.iload 5, 2) := by decide +kernel
theorem own_d_prog_104_method_3_code_21 : decode prog_104_method_3_code 21 = .ok (.iaload, 1) := by decide +kernel
theorem own_d_prog_104_method_3_code_22 : decode prog_104_method_3_code 22 = .ok (.iload_n 2, 1) := by decide +kernel
theorem own_d_prog_104_method_3_code_23 : decode prog_104_method_3_code 23 = .ok (.if_icmp .ne 13, 3) := by decide +kernel
theorem own_d_prog_104_method_3_code_26 : decode prog_104_method_3_code 26 = .ok (.dload_n 3, 1) := by decide +kernel
theorem own_d_prog_104_method_3_code_27 : decode prog_104_method_3_code 27 = .ok (.aload_n 0, 1) := by decide +kernel
theorem own_d_prog_104_method_3_code_28 : decode prog_104_method_3_code 28 = .ok (.getfield 13, 3) := by decide +kernel
theorem own_d_prog_104_method_3_code_31 : decode prog_104_method_3_code 31 = .ok (.iload 5, 2) := by decide +kernel
theorem own_d_prog_104_method_3_code_33 : decode prog_104_method_3_code 33 = .ok (.daload, 1) := by decide +kernel
theorem own_d_prog_104_method_3_code_34 : decode prog_104_method_3_code 34 = .ok (.dadd, 1) := by decide +kernel
theorem own_d_prog_104_method_3_code_35 : decode prog_104_method_3_code 35 = .ok (.dstore_n 3, 1) := by decide +kernel
theorem own_d_prog_104_method_3_code_36 : decode prog_104_method_3_code 36 = .ok (.iload 5, 2) := by decide +kernel
theorem own_d_prog_104_method_3_code_38 : decode prog_104_method_3_code 38 = .ok (.aload_n 0, 1) := by decide +kernel
theorem own_d_prog_104_method_3_code_39 : decode prog_104_method_3_code 39 = .ok (.getfield 7, 3) := by decide +kernel
theorem own_d_prog_104_method_3_code_42 : decode prog_104_method_3_code 42 = .ok (.iadd, 1) := by decide +kernel
theorem own_d_prog_104_method_3_code_43 : decode prog_104_method_3_code 43 = .ok (.istore 5, 2) := by decide +kernel
theorem own_d_prog_104_method_3_code_45 : decode prog_104_method_3_code 45 = .ok (.goto (-40), 3) := by decide +kernel
theorem own_d_prog_104_method_3_code_48 : decode prog_104_method_3_code 48 = .ok (.dload_n 3, 1) := by decide +kernel
theorem own_d_prog_104_method_3_code_49 : decode prog_104_method_3_code 49 = .ok (.dreturn, 1) := by decide +kernel
theorem own_d_method_2_code_0 : decode method_2_code 0 = .ok (.iload 8, 2) := by decide +kernel
theorem own_d_method_2_code_2 : decode method_2_code 2 = .ok (.iload_n 0, 1) := by decide +kernel
theorem own_d_method_2_code_3 : decode method_2_code 3 = .ok (.if_icmp .ne 20, 3) := by decide +kernel
theorem own_d_method_2_code_6 : decode method_2_code 6 = .ok (.iload 7, 2) := by decide +kernel
theorem own_d_method_2_code_8 : decode method_2_code 8 = .ok (.iload_n 1, 1) := by decide +kernel
theorem own_d_method_2_code_9 : decode method_2_code 9 = .ok (.if_icmp .ne 14, 3) := by decide +kernel
theorem own_d_method_2_code_12 : decode method_2_code 12 = .ok (.iload 9, 2) := by decide +kernel
theorem own_d_method_2_code_14 : decode method_2_code 14 = .ok (.istore 11, 2) := by decide +kernel
theorem own_d_method_2_code_16 : decode method_2_code 16 = .ok (.iload 10, 2) := by decide +kernel
theorem own_d_method_2_code_18 : decode method_2_code 18 = .ok (.istore 12, 2) := by decide +kernel
theorem own_d_method_2_code_20 : decode method_2_code 20 = .ok (.goto 31, 3) := by decide +kernel
theorem own_d_method_2_code_51 : decode method_2_code 51 = .ok (.iload 11, 2) := by decide +kernel
theorem own_d_method_2_code_53 : decode method_2_code 53 = .ok (.iload_n 2, 1) := by decide +kernel
theorem own_d_method_2_code_54 : decode method_2_code 54 = .ok (.if_icmp .ne 7, 3) := by decide +kernel
theorem own_d_method_2_code_57 : decode method_2_code 57 = .ok (.iload 12, 2) := by decide +kernel
theorem own_d_method_2_code_59 : decode method_2_code 59 = .ok (.i2d, 1) := by decide +kernel
theorem own_d_method_2_code_60 : decode method_2_code 60 = .ok (.dreturn, 1) := by decide +kernel
theorem own_d_method_2_code_61 : decode method_2_code 61 = .ok (.dconst 0, 1) := by decide +kernel
theorem own_d_method_2_code_62 : decode method_2_code 62 = .ok (.dreturn, 1) := by decide +kernel
theorem own_d_method_2_code_23 : decode method_2_code 23 = .ok (.iload 4, 2) := by decide +kernel
theorem own_d_method_2_code_25 : decode method_2_code 25 = .ok (.iload_n 0, 1) := by decide +kernel
theorem own_d_method_2_code_26 : decode method_2_code 26 = .ok (.if_icmp .ne 19, 3) := by decide +kernel
theorem own_d_method_2_code_29 : decode method_2_code 29 = .ok (.iload_n 3, 1) := by decide +kernel
theorem own_d_method_2_code_30 : decode method_2_code 30 = .ok (.iload_n 1, 1) := by decide +kernel
theorem own_d_method_2_code_31 : decode method_2_code 31 = .ok (.if_icmp .ne 14, 3) := by decide +kernel
theorem own_d_method_2_code_34 : decode method_2_code 34 = .ok (.iload 5, 2) := by decide +kernel
theorem own_d_method_2_code_36 : decode method_2_code 36 = .ok (.istore 11, 2) := by decide +kernel
theorem own_d_method_2_code_38 : decode method_2_code 38 = .ok (.iload 6, 2) := by decide +kernel
theorem own_d_method_2_code_40 : decode method_2_code 40 = .ok (.istore 12, 2) := by decide +kernel
theorem own_d_method_2_code_42 : decode method_2_code 42 = .ok (.goto 9, 3) := by decide +kernel
theorem own_d_method_2_code_45 : decode method_2_code 45 = .ok (.iconst 0, 1) := by decide +kernel
theorem own_d_method_2_code_46 : decode method_2_code 46 = .ok (.istore 11, 2) := by decide +kernel
theorem own_d_method_2_code_48 : decode method_2_code 48 = .ok (.iconst 0, 1) := by decide +kernel
theorem own_d_method_2_code_49 : decode method_2_code 49 = .ok (.istore 12, 2) := by decide +kernel
theorem own_pd0 : parseMethodDescriptor "(II)V" = some ⟨[.int, .int], none⟩ := by decide +kernel
theorem own_pd1 : parseMethodDescriptor "(IIID)V" = some ⟨[.int, .int, .int, .double], none⟩ := by decide +kernel
theorem own_pd2 : parseMethodDescriptor "(II)D" = some ⟨[.int, .int], some .double⟩ := by decide +kernel
theorem own_pd3 : parseMethodDescriptor "(IIIIIIIIIII)D" = some ⟨[.int, .int, .int, .int, .int, .int, .int, .int, .int, .int, .int], some .double⟩ := by decide +kernel
theorem own_pn0 : plainName "com/example/cranfield/cranfield/search/TermScores" = true := by first | (simp [plainName, overriddenIn]; done) | decide +kernel
theorem own_pn1 : plainName "com/example/cranfield/cranfield/search/TermScoresPutPinLaw" = true := by first | (simp [plainName, overriddenIn]; done) | decide +kernel
def QL (n0 : Nat) (v : Option Value) (h : Heap) (L : List Loc) : Prop := v = some (.int 1) ∧ Fr n0 L
theorem own_lc0 {a b : Int64} (h : a = b) : lcmpW a b = 0 := (lcW a b).trans ((lc_eq a b).mpr h)
theorem own_lcn {a b : Int64} (h : ¬ a = b) : ¬ lcmpW a b = 0 := fun q => h ((lc_eq a b).mp ((lcW a b).symm.trans q))
theorem own_lclt {a b : Int64} (h : a < b) : lcmpW a b < 0 := (lcW a b).symm ▸ (lc_lt a b).mpr h
theorem own_lcge {a b : Int64} (h : ¬ a < b) : ¬ lcmpW a b < 0 := fun q => h ((lc_lt a b).mp ((lcW a b) ▸ q))
theorem own_lcgt {a b : Int64} (h : b < a) : 0 < lcmpW a b := (lcW a b).symm ▸ (lc_gt a b).mpr h
theorem own_lcle {a b : Int64} (h : ¬ b < a) : ¬ 0 < lcmpW a b := fun q => h ((lc_gt a b).mp ((lcW a b) ▸ q))
theorem own_cellE {Z : State} {h : Heap} {a : Addr} {C : String} (F : Exa Z h a C) : ∃ cl : Cell, h[a]? = some cl ∧ cl.vm.isStatics = false := by obtain ⟨c, _, h1, -, -, h4, -⟩ := F; exact ⟨c, h1, h4⟩
theorem own_cellV {Z : State} {h : Heap} {a : Addr} {k : ClassId} {ty : FieldType} {n : Int32} {vs : List Value} {d : Value} (F : Arv Z h a k ty n vs d) : ∃ cl : Cell, h[a]? = some cl ∧ cl.vm.isStatics = false := by obtain ⟨c, A, -⟩ := F; exact ⟨c, A.1, A.plain⟩
theorem own_sta_keep {Z : State} {h h' : Heap} {C n d : String} {v : Value} {ws : List Addr} (F : Sta Z h C n d v) (K : Keep h h' ws) (q : ∀ x ∈ ws, ∃ cl : Cell, h[x]? = some cl ∧ cl.vm.isStatics = false) : Sta Z h' C n d v := by
  obtain ⟨cf, i, k, f, st, cell, h1, h2, h3, h4, h5, h6, h7⟩ := F
  refine ⟨cf, i, k, f, st, cell, h1, h2, h3, h4, K.2.1 st cell h5 (fun hm => ?_), h6, h7⟩
  obtain ⟨cl, e1, e2⟩ := q st hm
  cases e1.symm.trans h5
  rw [e2] at h6; cases h6
def own_B (k : Int) (x : Int64) : Prop := -(k * 2147483648) ≤ x.toInt ∧ x.toInt ≤ k * 2147483648
theorem own_bz : own_B 1 (0 : Int64) := by
  have t : (0 : Int64).toInt = 0 := by decide
  unfold own_B; rw [t]; omega
theorem own_bI (x : Int32) : own_B 1 (x.toInt64) := by
  have h1 := x.toInt_lt; have h2 := x.le_toInt
  unfold own_B; rw [Int32.toInt_toInt64]; omega
theorem own_b53 {k : Int} {x : Int64} (h : own_B k x) (hk : k ≤ 100) (hk0 : 0 ≤ k) : B53 x := by
  obtain ⟨h1, h2⟩ := h
  unfold B53; omega
theorem own_badd {j k : Int} {x y : Int64} (hx : own_B j x) (hy : own_B k y) (hj : j ≤ 50) (hk : k ≤ 50) (hj0 : 0 ≤ j) (hk0 : 0 ≤ k) : own_B (j + k) (x + y) := by
  have e := add64 (own_b53 hx (by omega) hj0) (own_b53 hy (by omega) hk0)
  obtain ⟨a1, a2⟩ := hx
  obtain ⟨b1, b2⟩ := hy
  unfold own_B; rw [e]; omega
theorem own_dc0 : FP.dconst0 = FP.l2d 0 := by decide +kernel
def own_acc (q v : Int32) (x acc : Int64) : Int64 := if v = q then acc + x else acc
def own_f (doc dq : Int32) (x : Int64) : Int64 := if doc = dq then x else 0
def own_c1 (t sq dq s1 t1 d1 v1 : Int32) : Int64 := if t1 = t then (if s1 = sq then own_f d1 dq (v1.toInt64) else own_f 0 dq ((0 : Int32).toInt64)) else own_f 0 dq ((0 : Int32).toInt64)
def own_c (t sq dq s1 t1 d1 v1 s2 t2 d2 v2 : Int32) : Int64 := if t2 = t then (if s2 = sq then own_f d2 dq (v2.toInt64) else own_c1 t sq dq s1 t1 d1 v1) else own_c1 t sq dq s1 t1 d1 v1
theorem own_fB {doc dq : Int32} {x : Int64} (h : own_B 1 x) : own_B 1 (own_f doc dq x) := by
  unfold own_f; split
  · exact h
  · exact own_bz
theorem own_cB (t sq dq s1 t1 d1 v1 s2 t2 d2 v2 : Int32) : own_B 1 (own_c t sq dq s1 t1 d1 v1 s2 t2 d2 v2) := by
  have h1 : own_B 1 (own_c1 t sq dq s1 t1 d1 v1) := by
    unfold own_c1
    split
    · split
      · exact own_fB (own_bI _)
      · exact own_fB (own_bI _)
    · exact own_fB (own_bI _)
  unfold own_c
  split
  · split
    · exact own_fB (own_bI _)
    · exact h1
  · exact h1
theorem own_accf (q v : Int32) (x acc : Int64) : own_acc q v x acc = acc + own_f v q x := by
  unfold own_acc own_f; split
  · rfl
  · rw [Int64.add_zero]
theorem own_sumeq {q v0 v1 : Int32} {x0 x1 c0 c1 : Int64} (h0 : c0 = own_f v0 q x0) (h1 : c1 = own_f v1 q x1) : own_acc q v1 x1 (own_acc q v0 x0 (0 : Int64)) = (((0 : Int64) + c0) + c1) := by
  rw [own_accf, own_accf, h0, h1]
theorem own_m3 (a : Int32) : ((a &&& (255 : Int32)) % (3 : Int32)) = 0 ∨ ((a &&& (255 : Int32)) % (3 : Int32)) = 1 ∨ ((a &&& (255 : Int32)) % (3 : Int32)) = 2 := by
  have e1 : (a &&& 255).toInt = a.toInt % 2 ^ 8 := Jvm.Kit.i32_mask a 255 (k := 8) (by decide) (by decide)
  generalize (a &&& 255) = x at *
  have t6 : (3 : Int32).toInt = 3 := by decide
  have d2 : (x % (3 : Int32)).toInt = x.toInt % 3 := by rw [Int32.toInt_mod, t6, Int.tmod_eq_emod_of_nonneg (by omega)]
  simp only [← Int32.toInt_inj, d2]
  show x.toInt % 3 = 0 ∨ x.toInt % 3 = 1 ∨ x.toInt % 3 = 2
  omega
def QI (Z : State) (a : Addr) (h0 : Heap) (n0 : Nat) (v : Option Value) (h : Heap) (L : List Loc) : Prop := v = none ∧ Fr n0 L ∧ Keep h0 h [a] ∧ ∃ (sc : Addr) (k1 : ClassId) (dc : Addr) (k2 : ClassId), h0.size ≤ sc ∧ h0.size ≤ dc ∧ sc ≠ dc ∧ Fld Z h a "com/example/cranfield/cranfield/search/TermScores" "slots" "I" (.int (3 : Int32)) ∧ Fld Z h a "com/example/cranfield/cranfield/search/TermScores" "scores" "[D" (.ref sc) ∧ Fld Z h a "com/example/cranfield/cranfield/search/TermScores" "documents" "[I" (.ref dc) ∧ Arh Z h sc k1 .double (6 : Int32) [] [(.double (FP.l2d (0 : Int64))), (.double (FP.l2d (0 : Int64))), (.double (FP.l2d (0 : Int64))), (.double (FP.l2d (0 : Int64))), (.double (FP.l2d (0 : Int64))), (.double (FP.l2d (0 : Int64)))] (.double (FP.l2d (0 : Int64))) ∧ Arh Z h dc k2 .int (6 : Int32) [] [(.int (0 : Int32)), (.int (0 : Int32)), (.int (0 : Int32)), (.int (0 : Int32)), (.int (0 : Int32)), (.int (0 : Int32))] (.int (0 : Int32))
theorem own_ef_rmI (m : MethodId) (y0 : Addr) (y1 : Int32) (y2 : Int32) : entryFrame m #[(.ref y0), (.int y1), (.int y2)] 3 = mkF m 0 #[.val (.ref y0), .val (.int y1), .val (.int y2)] [] := by first | (simp [entryFrame, mkF, argsToLocals, Value.category]; done) | rfl
set_option maxRecDepth 65536 in
set_option maxHeartbeats 40000000 in
theorem rmI (l : Launch) (Z : State) (a0 : Array Value) (hw : ∀ d ∈ tables_1, d.before a0 Z = true) (ws : List Jvm.Cond) (a : Addr) (h0 : Heap) (n0 : Nat) (Z0 : n0 ≤ h0.size) (E_a : Exa Z h0 a "com/example/cranfield/cranfield/search/TermScores") (g_a : n0 ≤ a) (F1 : Fld Z h0 a "com/example/cranfield/cranfield/search/TermScores" "slots" "I" (.int (0 : Int32))) (F2 : Fld Z h0 a "com/example/cranfield/cranfield/search/TermScores" "scores" "[D" .null) (F3 : Fld Z h0 a "com/example/cranfield/cranfield/search/TermScores" "documents" "[I" .null) :
    MetFree l (⟨"com/example/cranfield/cranfield/search/TermScores", "<init>", "(II)V"⟩ : MethodName) (head1 (Jvm.Cond.code (⟨"com/example/cranfield/cranfield/search/TermScores", "<init>", "(II)V"⟩ : MethodName) prog_104_method_1_code 3 none :: ws) ({ frames := 1, cells := 2, slots := 12, locals := 12 } : Room)) (fun ar_ U => ar_ = #[(.ref a), (.int (2 : Int32)), (.int (3 : Int32))] ∧ Z.Warmed39 U.vm ∧ U.heap = h0) (fun _ _ _ _ _ => True) (fun _ U o U' => ∃ v L, o = .returned v ∧ QI Z a h0 n0 v U'.heap L ∧ FrameEnd U o U' L ({ frames := 1, cells := 2, slots := 12, locals := 12 } : Room).cells ({ frames := 1, cells := 2, slots := 12, locals := 12 } : Room).slots) := by
  refine MetFree.of_bodySF (plainFor_of_name own_pn0) hisR ?_
  intro p e s m args below meth c s₁ Bd hml0 hP hK
  obtain ⟨rfl, hZ, hh⟩ := hP
  have hx := Bd.exec
  have hby := Bd.bytes
  have hml : c.maxLocals = 3 := hml0
  have hown : s.vm.findClass "com/example/cranfield/cranfield/search/TermScores" = some m.cls := findClass_of_methodNamed Bd.named
  have hnm := (name_of_methodNamed Bd.named Bd.method).1
  have X0 : Stand p l e ({ frames := 1, cells := 2, slots := 12, locals := 12 } : Room) s m #[(.ref a), (.int (2 : Int32)), (.int (3 : Int32))] below meth c s₁ [] 0 0 := Stand.of_body Bd
  have e0 : s₁.heap = h0 := by rw [← hh, Bd.state]; rfl
  have N0 := Fr.nil n0
  have pre0 : ∀ tt_, Steps p.tables e below (s₁.setTop (mkF m 0 #[.val (.ref a), .val (.int (2 : Int32)), .val (.int (3 : Int32))] [])) tt_ → Steps p.tables e below (s₁.setTop (entryFrame m #[(.ref a), (.int (2 : Int32)), (.int (3 : Int32))] 3)) tt_ := fun tt_ kk_ => castTop (own_ef_rmI m a (2 : Int32) (3 : Int32)) kk_
  obtain ⟨T1, X1, e1, st1⟩ := initO X0 hx hZ hown (hw _ (List.mem_of_getElem? (i := 6) rfl)) (hw _ (List.mem_of_getElem? (i := 7) rfl)) (hw _ (List.mem_of_getElem? (i := 8) rfl)) e0 (g := (mkF m 1 #[.val (.ref a), .val (.int (2 : Int32)), .val (.int (3 : Int32))] [(.ref a)])) rfl (by rw [hml]; rfl) rfl (hb hby own_d_prog_104_method_1_code_1) (by decide) (W := 0) (by show 2 * 0 + _ ≤ _; exact Nat.le_of_eq rfl) (by decide)
  obtain ⟨T2, h2, X2, e2, W2, st2⟩ := putF X1 hx hZ hown (host := "") (Or.inl (hw _ (List.mem_of_getElem? (i := 9) rfl))) Via.refl e1 F1 E_a (Or.inr ⟨(hw _ (List.mem_of_getElem? (i := 10) rfl)), rfl, hnm⟩) (hw _ (List.mem_of_getElem? (i := 1) rfl)) (ty := .int) (by decide) rfl rfl (g := (mkF m 6 #[.val (.ref a), .val (.int (2 : Int32)), .val (.int (3 : Int32))] [(.int (3 : Int32)), (.ref a)])) rfl rfl (hb hby own_d_prog_104_method_1_code_6)
  have F2_0 := F1.same W2
  have F2_1 := F2.other W2 (Or.inr (slot_ne (Or.inr (hw _ (List.mem_of_getElem? (i := 13) rfl))) (Or.inr (hw _ (List.mem_of_getElem? (i := 10) rfl))) (by decide) (t := (.array .double)) (t' := .int) (by decide) (by decide)))
  have F2_2 := F3.other W2 (Or.inr (slot_ne (Or.inr (hw _ (List.mem_of_getElem? (i := 16) rfl))) (Or.inr (hw _ (List.mem_of_getElem? (i := 10) rfl))) (by decide) (t := (.array .int)) (t' := .int) (by decide) (by decide)))
  have X2_0 := E_a.wr W2
  have z2 : n0 ≤ h2.size := by rw [W2.size]; exact Z0
  have K2 : Keep h0 h2 [a] := (Keep.refl h0 [a]).wr W2 (Or.inl (by simp))
  have N2 := Fr.snoc X2 N0 g_a
  have fold3 : ((2 : Int32) * (3 : Int32)) = (6 : Int32) := by decide +kernel
  obtain ⟨T4, h4, k4, X4, e4, E4, A4, st4⟩ := newP X2 hx hZ (hw _ (List.mem_of_getElem? (i := 11) rfl)) e2 (g := (mkF m 13 #[.val (.ref a), .val (.int (2 : Int32)), .val (.int (3 : Int32))] [(.int (6 : Int32)), (.ref a)])) rfl (hb hby own_d_prog_104_method_1_code_13) rfl (by decide) (cap := 6) (by decide) (by decide) (by decide) (by decide)
  obtain ⟨b4, g4⟩ : ∃ z, z = h2.size := ⟨_, rfl⟩
  rw [← g4] at A4 st4
  have ne_a_b4 : a ≠ b4 := Nat.ne_of_lt (Nat.lt_of_lt_of_le (X2_0).lt (Nat.le_of_eq g4.symm))
  have g_b4 : n0 ≤ b4 := Nat.le_trans z2 (Nat.le_of_eq g4.symm)
  have sz_b4 : h0.size ≤ b4 := Nat.le_trans K2.1 (Nat.le_of_eq g4.symm)
  have F4_0 := F2_0.ext E4
  have F4_1 := F2_1.ext E4
  have F4_2 := F2_2.ext E4
  have X4_0 := X2_0.ext E4
  have z4 : n0 ≤ h4.size := Nat.le_trans z2 E4.1
  have K4 : Keep h0 h4 [a] := K2.ext E4
  have V_b4 : Arv Z h4 b4 k4 .double (6 : Int32) [(.double (FP.l2d (0 : Int64))), (.double (FP.l2d (0 : Int64))), (.double (FP.l2d (0 : Int64))), (.double (FP.l2d (0 : Int64))), (.double (FP.l2d (0 : Int64))), (.double (FP.l2d (0 : Int64)))] (.double (FP.l2d (0 : Int64))) := (Arv.newD A4 (by decide)).pad (pad_rep [] (.double (FP.l2d (0 : Int64))) 6)
  obtain ⟨T5, h5, X5, e5, W5, st5⟩ := putF X4 hx hZ hown (host := "") (Or.inl (hw _ (List.mem_of_getElem? (i := 12) rfl))) Via.refl e4 F4_1 X4_0 (Or.inr ⟨(hw _ (List.mem_of_getElem? (i := 13) rfl)), rfl, hnm⟩) (hw _ (List.mem_of_getElem? (i := 1) rfl)) (ty := (.array .double)) (by decide) rfl rfl (g := (mkF m 15 #[.val (.ref a), .val (.int (2 : Int32)), .val (.int (3 : Int32))] [(.ref b4), (.ref a)])) rfl rfl (hb hby own_d_prog_104_method_1_code_15)
  have F5_0 := F4_0.other W5 (Or.inr (slot_ne (Or.inr (hw _ (List.mem_of_getElem? (i := 10) rfl))) (Or.inr (hw _ (List.mem_of_getElem? (i := 13) rfl))) (by decide) (t := .int) (t' := (.array .double)) (by decide) (by decide)))
  have F5_1 := F4_1.same W5
  have F5_2 := F4_2.other W5 (Or.inr (slot_ne (Or.inr (hw _ (List.mem_of_getElem? (i := 16) rfl))) (Or.inr (hw _ (List.mem_of_getElem? (i := 13) rfl))) (by decide) (t := (.array .int)) (t' := (.array .double)) (by decide) (by decide)))
  have X5_0 := X4_0.wr W5
  have V5_0 := V_b4.other W5 (Ne.symm ne_a_b4)
  have z5 : n0 ≤ h5.size := by rw [W5.size]; exact z4
  have K5 : Keep h0 h5 [a] := K4.wr W5 (Or.inl (by simp))
  have N5 := Fr.snoc X5 N2 g_a
  have fold6 : ((2 : Int32) * (3 : Int32)) = (6 : Int32) := by decide +kernel
  obtain ⟨T7, h7, k7, X7, e7, E7, A7, st7⟩ := newP X5 hx hZ (hw _ (List.mem_of_getElem? (i := 14) rfl)) e5 (g := (mkF m 22 #[.val (.ref a), .val (.int (2 : Int32)), .val (.int (3 : Int32))] [(.int (6 : Int32)), (.ref a)])) rfl (hb hby own_d_prog_104_method_1_code_22) rfl (by decide) (cap := 6) (by decide) (by decide) (by decide) (by decide)
  obtain ⟨b7, g7⟩ : ∃ z, z = h5.size := ⟨_, rfl⟩
  rw [← g7] at A7 st7
  have ne_a_b7 : a ≠ b7 := Nat.ne_of_lt (Nat.lt_of_lt_of_le (X5_0).lt (Nat.le_of_eq g7.symm))
  have ne_b4_b7 : b4 ≠ b7 := Nat.ne_of_lt (Nat.lt_of_lt_of_le (V5_0).lt (Nat.le_of_eq g7.symm))
  have g_b7 : n0 ≤ b7 := Nat.le_trans z5 (Nat.le_of_eq g7.symm)
  have sz_b7 : h0.size ≤ b7 := Nat.le_trans K5.1 (Nat.le_of_eq g7.symm)
  have F7_0 := F5_0.ext E7
  have F7_1 := F5_1.ext E7
  have F7_2 := F5_2.ext E7
  have X7_0 := X5_0.ext E7
  have V7_0 := V5_0.ext E7
  have z7 : n0 ≤ h7.size := Nat.le_trans z5 E7.1
  have K7 : Keep h0 h7 [a] := K5.ext E7
  have V_b7 : Arv Z h7 b7 k7 .int (6 : Int32) [(.int (0 : Int32)), (.int (0 : Int32)), (.int (0 : Int32)), (.int (0 : Int32)), (.int (0 : Int32)), (.int (0 : Int32))] (.int (0 : Int32)) := (Arv.new A7 (by decide)).pad (pad_rep [] (.int (0 : Int32)) 6)
  obtain ⟨T8, h8, X8, e8, W8, st8⟩ := putF X7 hx hZ hown (host := "") (Or.inl (hw _ (List.mem_of_getElem? (i := 15) rfl))) Via.refl e7 F7_2 X7_0 (Or.inr ⟨(hw _ (List.mem_of_getElem? (i := 16) rfl)), rfl, hnm⟩) (hw _ (List.mem_of_getElem? (i := 1) rfl)) (ty := (.array .int)) (by decide) rfl rfl (g := (mkF m 24 #[.val (.ref a), .val (.int (2 : Int32)), .val (.int (3 : Int32))] [(.ref b7), (.ref a)])) rfl rfl (hb hby own_d_prog_104_method_1_code_24)
  have F8_0 := F7_0.other W8 (Or.inr (slot_ne (Or.inr (hw _ (List.mem_of_getElem? (i := 10) rfl))) (Or.inr (hw _ (List.mem_of_getElem? (i := 16) rfl))) (by decide) (t := .int) (t' := (.array .int)) (by decide) (by decide)))
  have F8_1 := F7_1.other W8 (Or.inr (slot_ne (Or.inr (hw _ (List.mem_of_getElem? (i := 13) rfl))) (Or.inr (hw _ (List.mem_of_getElem? (i := 16) rfl))) (by decide) (t := (.array .double)) (t' := (.array .int)) (by decide) (by decide)))
  have F8_2 := F7_2.same W8
  have X8_0 := X7_0.wr W8
  have V8_0 := V7_0.other W8 (Ne.symm ne_a_b4)
  have V8_1 := V_b7.other W8 (Ne.symm ne_a_b7)
  have z8 : n0 ≤ h8.size := by rw [W8.size]; exact z7
  have K8 : Keep h0 h8 [a] := K7.wr W8 (Or.inl (by simp))
  have N8 := Fr.snoc X8 N5 g_a
  have pre9 : ∀ tt_, Steps p.tables e below (T8.setTop (mkF m 27 #[.val (.ref a), .val (.int (2 : Int32)), .val (.int (3 : Int32))] [])) tt_ → Steps p.tables e below (s₁.setTop (entryFrame m #[(.ref a), (.int (2 : Int32)), (.int (3 : Int32))] 3)) tt_ := fun tt_ kk_ => pre0 tt_ (by
    show Steps p.tables e below (s₁.setTop (mkF m 0 #[.val (.ref a), .val (.int (2 : Int32)), .val (.int (3 : Int32))] [])) _
    refine XS.aloadN X0.here hx rfl (hb hby own_d_prog_104_method_1_code_0) rfl rfl ?_
    show Steps p.tables e below (s₁.setTop (mkF m 1 #[.val (.ref a), .val (.int (2 : Int32)), .val (.int (3 : Int32))] [(.ref a)])) _
    refine st1 _ ?_
    show Steps p.tables e below (T1.setTop (mkF m 4 #[.val (.ref a), .val (.int (2 : Int32)), .val (.int (3 : Int32))] [])) _
    refine XS.aloadN X1.here hx rfl (hb hby own_d_prog_104_method_1_code_4) rfl rfl ?_
    show Steps p.tables e below (T1.setTop (mkF m 5 #[.val (.ref a), .val (.int (2 : Int32)), .val (.int (3 : Int32))] [(.ref a)])) _
    refine XS.iloadN X1.here hx rfl (hb hby own_d_prog_104_method_1_code_5) rfl ?_
    show Steps p.tables e below (T1.setTop (mkF m 6 #[.val (.ref a), .val (.int (2 : Int32)), .val (.int (3 : Int32))] [(.int (3 : Int32)), (.ref a)])) _
    refine st2 _ ?_
    show Steps p.tables e below (T2.setTop (mkF m 9 #[.val (.ref a), .val (.int (2 : Int32)), .val (.int (3 : Int32))] [])) _
    refine XS.aloadN X2.here hx rfl (hb hby own_d_prog_104_method_1_code_9) rfl rfl ?_
    show Steps p.tables e below (T2.setTop (mkF m 10 #[.val (.ref a), .val (.int (2 : Int32)), .val (.int (3 : Int32))] [(.ref a)])) _
    refine XS.iloadN X2.here hx rfl (hb hby own_d_prog_104_method_1_code_10) rfl ?_
    show Steps p.tables e below (T2.setTop (mkF m 11 #[.val (.ref a), .val (.int (2 : Int32)), .val (.int (3 : Int32))] [(.int (2 : Int32)), (.ref a)])) _
    refine XS.iloadN X2.here hx rfl (hb hby own_d_prog_104_method_1_code_11) rfl ?_
    show Steps p.tables e below (T2.setTop (mkF m 12 #[.val (.ref a), .val (.int (2 : Int32)), .val (.int (3 : Int32))] [(.int (3 : Int32)), (.int (2 : Int32)), (.ref a)])) _
    refine XS.imul X2.here hx rfl (hb hby own_d_prog_104_method_1_code_12) rfl ?_
    show Steps p.tables e below (T2.setTop (mkF m 13 #[.val (.ref a), .val (.int (2 : Int32)), .val (.int (3 : Int32))] [(.int ((2 : Int32) * (3 : Int32))), (.ref a)])) _
    rw [fold3]
    show Steps p.tables e below (T2.setTop (mkF m 13 #[.val (.ref a), .val (.int (2 : Int32)), .val (.int (3 : Int32))] [(.int (6 : Int32)), (.ref a)])) _
    refine st4 _ ?_
    show Steps p.tables e below (T4.setTop (mkF m 15 #[.val (.ref a), .val (.int (2 : Int32)), .val (.int (3 : Int32))] [(.ref b4), (.ref a)])) _
    refine st5 _ ?_
    show Steps p.tables e below (T5.setTop (mkF m 18 #[.val (.ref a), .val (.int (2 : Int32)), .val (.int (3 : Int32))] [])) _
    refine XS.aloadN X5.here hx rfl (hb hby own_d_prog_104_method_1_code_18) rfl rfl ?_
    show Steps p.tables e below (T5.setTop (mkF m 19 #[.val (.ref a), .val (.int (2 : Int32)), .val (.int (3 : Int32))] [(.ref a)])) _
    refine XS.iloadN X5.here hx rfl (hb hby own_d_prog_104_method_1_code_19) rfl ?_
    show Steps p.tables e below (T5.setTop (mkF m 20 #[.val (.ref a), .val (.int (2 : Int32)), .val (.int (3 : Int32))] [(.int (2 : Int32)), (.ref a)])) _
    refine XS.iloadN X5.here hx rfl (hb hby own_d_prog_104_method_1_code_20) rfl ?_
    show Steps p.tables e below (T5.setTop (mkF m 21 #[.val (.ref a), .val (.int (2 : Int32)), .val (.int (3 : Int32))] [(.int (3 : Int32)), (.int (2 : Int32)), (.ref a)])) _
    refine XS.imul X5.here hx rfl (hb hby own_d_prog_104_method_1_code_21) rfl ?_
    show Steps p.tables e below (T5.setTop (mkF m 22 #[.val (.ref a), .val (.int (2 : Int32)), .val (.int (3 : Int32))] [(.int ((2 : Int32) * (3 : Int32))), (.ref a)])) _
    rw [fold6]
    show Steps p.tables e below (T5.setTop (mkF m 22 #[.val (.ref a), .val (.int (2 : Int32)), .val (.int (3 : Int32))] [(.int (6 : Int32)), (.ref a)])) _
    refine st7 _ ?_
    show Steps p.tables e below (T7.setTop (mkF m 24 #[.val (.ref a), .val (.int (2 : Int32)), .val (.int (3 : Int32))] [(.ref b7), (.ref a)])) _
    refine st8 _ ?_
    exact kk_)
  obtain ⟨fs, hr, hrun, hended, hW, hsame⟩ := X8.leave (v := none) (fun _ => rfl)
  refine ⟨_, _, pre9 _ ?_, hrun, hended, _, _, rfl, ?_, ⟨_, rfl⟩, hW, hsame.mono (by decide) (by decide)⟩
  · show Steps p.tables e below (T8.setTop (mkF m 27 #[.val (.ref a), .val (.int (2 : Int32)), .val (.int (3 : Int32))] [])) _
    exact X8.returnOut hx Bd.returns (hb hby own_d_prog_104_method_1_code_27) hr
  · show QI Z a h0 n0 _ T8.heap _
    rw [e8]
    exact ⟨rfl, N8, K8, b4, _, b7, _, sz_b4, sz_b7, ne_b4_b7, F8_0, F8_1, F8_2, Arv.arh V8_0, Arv.arh V8_1⟩
def QU (Z : State) (a : Addr) (p1 p2 p3 : Int32) (x : Int64) (sc dc : Addr) (k1 k2 : ClassId) (sn : Int32) (hs1 hs2 : List (Int32 × Value)) (vs1 vs2 : List Value) (h0 : Heap) (n0 : Nat) (v : Option Value) (h : Heap) (L : List Loc) : Prop := v = none ∧ Fr n0 L ∧ Keep h0 h [sc, dc] ∧ Arh Z h sc k1 .double (6 : Int32) ((((p2 * sn) + p1), .double (FP.l2d x)) :: hs1) vs1 (.double (FP.l2d (0 : Int64))) ∧ Arh Z h dc k2 .int (6 : Int32) ((((p2 * sn) + p1), .int p3) :: hs2) vs2 (.int (0 : Int32))
theorem own_ef_rmU (m : MethodId) (y0 : Addr) (y1 : Int32) (y2 : Int32) (y3 : Int32) (y4 : UInt64) : entryFrame m #[(.ref y0), (.int y1), (.int y2), (.int y3), (.double y4)] 6 = mkF m 0 #[.val (.ref y0), .val (.int y1), .val (.int y2), .val (.int y3), .val (.double y4), .second] [] := by first | (simp [entryFrame, mkF, argsToLocals, Value.category]; done) | rfl
set_option maxRecDepth 65536 in
set_option maxHeartbeats 40000000 in
theorem rmU (l : Launch) (Z : State) (a0 : Array Value) (hw : ∀ d ∈ tables_1, d.before a0 Z = true) (ws : List Jvm.Cond) (a : Addr) (p1 p2 p3 : Int32) (x : Int64) (sc dc : Addr) (k1 k2 : ClassId) (sn : Int32) (hs1 hs2 : List (Int32 × Value)) (vs1 vs2 : List Value) (h0 : Heap) (n0 : Nat) (Z0 : n0 ≤ h0.size) (F1 : Fld Z h0 a "com/example/cranfield/cranfield/search/TermScores" "slots" "I" (.int sn)) (F2 : Fld Z h0 a "com/example/cranfield/cranfield/search/TermScores" "scores" "[D" (.ref sc)) (F3 : Fld Z h0 a "com/example/cranfield/cranfield/search/TermScores" "documents" "[I" (.ref dc)) (A1 : Arh Z h0 sc k1 .double (6 : Int32) hs1 vs1 (.double (FP.l2d (0 : Int64)))) (A2 : Arh Z h0 dc k2 .int (6 : Int32) hs2 vs2 (.int (0 : Int32))) (g_sc : n0 ≤ sc) (g_dc : n0 ≤ dc) (ne1 : a ≠ sc) (ne2 : a ≠ dc) (ne3 : sc ≠ dc) (hin : ¬ ((p2 * sn) + p1) < 0 ∧ ((p2 * sn) + p1) < (6 : Int32)) :
    MetFree l (⟨"com/example/cranfield/cranfield/search/TermScores", "put", "(IIID)V"⟩ : MethodName) (head1 (Jvm.Cond.code (⟨"com/example/cranfield/cranfield/search/TermScores", "put", "(IIID)V"⟩ : MethodName) prog_104_method_2_code 6 none :: ws) ({ frames := 0, cells := 0, slots := 0, locals := 0 } : Room)) (fun ar_ U => ar_ = #[(.ref a), (.int p1), (.int p2), (.int p3), (.double (FP.l2d x))] ∧ Z.Warmed39 U.vm ∧ U.heap = h0) (fun _ _ _ _ _ => True) (fun _ U o U' => ∃ v L, o = .returned v ∧ QU Z a p1 p2 p3 x sc dc k1 k2 sn hs1 hs2 vs1 vs2 h0 n0 v U'.heap L ∧ FrameEnd U o U' L ({ frames := 0, cells := 0, slots := 0, locals := 0 } : Room).cells ({ frames := 0, cells := 0, slots := 0, locals := 0 } : Room).slots) := by
  refine MetFree.of_bodySF (plainFor_of_name own_pn0) hisR ?_
  intro p e s m args below meth c s₁ Bd hml0 hP hK
  obtain ⟨rfl, hZ, hh⟩ := hP
  have hx := Bd.exec
  have hby := Bd.bytes
  have hml : c.maxLocals = 6 := hml0
  have hown : s.vm.findClass "com/example/cranfield/cranfield/search/TermScores" = some m.cls := findClass_of_methodNamed Bd.named
  have hnm := (name_of_methodNamed Bd.named Bd.method).1
  have X0 : Stand p l e ({ frames := 0, cells := 0, slots := 0, locals := 0 } : Room) s m #[(.ref a), (.int p1), (.int p2), (.int p3), (.double (FP.l2d x))] below meth c s₁ [] 0 0 := Stand.of_body Bd
  have e0 : s₁.heap = h0 := by rw [← hh, Bd.state]; rfl
  have N0 := Fr.nil n0
  have pre0 : ∀ tt_, Steps p.tables e below (s₁.setTop (mkF m 0 #[.val (.ref a), .val (.int p1), .val (.int p2), .val (.int p3), .val (.double (FP.l2d x)), .second] [])) tt_ → Steps p.tables e below (s₁.setTop (entryFrame m #[(.ref a), (.int p1), (.int p2), (.int p3), (.double (FP.l2d x))] 6)) tt_ := fun tt_ kk_ => castTop (own_ef_rmU m a p1 p2 p3 (FP.l2d x)) kk_
  obtain ⟨T1, X1, e1, st1⟩ := getF X0 hx hZ hown (host := "") (Or.inl (hw _ (List.mem_of_getElem? (i := 12) rfl))) Via.refl e0 F2 (g := (mkF m 1 #[.val (.ref a), .val (.int p1), .val (.int p2), .val (.int p3), .val (.double (FP.l2d x)), .second] [(.ref a)])) rfl rfl (hb hby own_d_prog_104_method_2_code_1)
  obtain ⟨T2, X2, e2, st2⟩ := getF X1 hx hZ hown (host := "") (Or.inl (hw _ (List.mem_of_getElem? (i := 9) rfl))) Via.refl e1 F1 (g := (mkF m 6 #[.val (.ref a), .val (.int p1), .val (.int p2), .val (.int p3), .val (.double (FP.l2d x)), .second] [(.ref a), (.int p2), (.ref sc)])) rfl rfl (hb hby own_d_prog_104_method_2_code_6)
  obtain ⟨cl3, Ar3, q3, S3, M3, H3, G3⟩ := id A1
  have hin3 : ¬ (((p2 * sn) + p1) < 0 ∨ cl3.slots.size ≤ (((p2 * sn) + p1)).toNatClampNeg) := inb_of S3 hin
  obtain ⟨T4, h4, X4, e4, W4, st4⟩ := stD X2 hx hZ e2 Ar3 (j := ((p2 * sn) + p1)) hin3 (g := (mkF m 14 #[.val (.ref a), .val (.int p1), .val (.int p2), .val (.int p3), .val (.double (FP.l2d x)), .second] [(.double (FP.l2d x)), (.int ((p2 * sn) + p1)), (.ref sc)])) rfl rfl (hb hby own_d_prog_104_method_2_code_14)
  have V_sc_4 : Arh Z h4 sc k1 .double (6 : Int32) ((((p2 * sn) + p1), (.double (FP.l2d x))) :: hs1) vs1 (.double (FP.l2d (0 : Int64))) := Arh.push Ar3 q3 S3 M3 H3 G3 rfl W4 hin3
  have F4_0 := F1.other W4 (Or.inl ne1)
  have F4_1 := F2.other W4 (Or.inl ne1)
  have F4_2 := F3.other W4 (Or.inl ne1)
  have V4_1 := A2.other W4 (Ne.symm ne3)
  have z4 : n0 ≤ h4.size := by rw [W4.size]; exact Z0
  have K4 : Keep h0 h4 [sc, dc] := (Keep.refl h0 [sc, dc]).wr W4 (Or.inl (by simp))
  have N4 := Fr.snoc X4 N0 g_sc
  obtain ⟨T5, X5, e5, st5⟩ := getF X4 hx hZ hown (host := "") (Or.inl (hw _ (List.mem_of_getElem? (i := 15) rfl))) Via.refl e4 F4_2 (g := (mkF m 16 #[.val (.ref a), .val (.int p1), .val (.int p2), .val (.int p3), .val (.double (FP.l2d x)), .second] [(.ref a)])) rfl rfl (hb hby own_d_prog_104_method_2_code_16)
  obtain ⟨T6, X6, e6, st6⟩ := getF X5 hx hZ hown (host := "") (Or.inl (hw _ (List.mem_of_getElem? (i := 9) rfl))) Via.refl e5 F4_0 (g := (mkF m 21 #[.val (.ref a), .val (.int p1), .val (.int p2), .val (.int p3), .val (.double (FP.l2d x)), .second] [(.ref a), (.int p2), (.ref dc)])) rfl rfl (hb hby own_d_prog_104_method_2_code_21)
  obtain ⟨cl7, Ar7, q7, S7, M7, H7, G7⟩ := id V4_1
  have hin7 : ¬ (((p2 * sn) + p1) < 0 ∨ cl7.slots.size ≤ (((p2 * sn) + p1)).toNatClampNeg) := inb_of S7 hin
  obtain ⟨T8, h8, X8, e8, W8, st8⟩ := stI X6 hx hZ e6 Ar7 (j := ((p2 * sn) + p1)) hin7 (g := (mkF m 28 #[.val (.ref a), .val (.int p1), .val (.int p2), .val (.int p3), .val (.double (FP.l2d x)), .second] [(.int p3), (.int ((p2 * sn) + p1)), (.ref dc)])) rfl rfl (hb hby own_d_prog_104_method_2_code_28)
  have V_dc_8 : Arh Z h8 dc k2 .int (6 : Int32) ((((p2 * sn) + p1), (.int p3)) :: hs2) vs2 (.int (0 : Int32)) := Arh.push Ar7 q7 S7 M7 H7 G7 rfl W8 hin7
  have F8_0 := F4_0.other W8 (Or.inl ne2)
  have F8_1 := F4_1.other W8 (Or.inl ne2)
  have F8_2 := F4_2.other W8 (Or.inl ne2)
  have V8_0 := V_sc_4.other W8 ne3
  have z8 : n0 ≤ h8.size := by rw [W8.size]; exact z4
  have K8 : Keep h0 h8 [sc, dc] := K4.wr W8 (Or.inl (by simp))
  have N8 := Fr.snoc X8 N4 g_dc
  have pre9 : ∀ tt_, Steps p.tables e below (T8.setTop (mkF m 29 #[.val (.ref a), .val (.int p1), .val (.int p2), .val (.int p3), .val (.double (FP.l2d x)), .second] [])) tt_ → Steps p.tables e below (s₁.setTop (entryFrame m #[(.ref a), (.int p1), (.int p2), (.int p3), (.double (FP.l2d x))] 6)) tt_ := fun tt_ kk_ => pre0 tt_ (by
    show Steps p.tables e below (s₁.setTop (mkF m 0 #[.val (.ref a), .val (.int p1), .val (.int p2), .val (.int p3), .val (.double (FP.l2d x)), .second] [])) _
    refine XS.aloadN X0.here hx rfl (hb hby own_d_prog_104_method_2_code_0) rfl rfl ?_
    show Steps p.tables e below (s₁.setTop (mkF m 1 #[.val (.ref a), .val (.int p1), .val (.int p2), .val (.int p3), .val (.double (FP.l2d x)), .second] [(.ref a)])) _
    refine st1 _ ?_
    show Steps p.tables e below (T1.setTop (mkF m 4 #[.val (.ref a), .val (.int p1), .val (.int p2), .val (.int p3), .val (.double (FP.l2d x)), .second] [(.ref sc)])) _
    refine XS.iloadN X1.here hx rfl (hb hby own_d_prog_104_method_2_code_4) rfl ?_
    show Steps p.tables e below (T1.setTop (mkF m 5 #[.val (.ref a), .val (.int p1), .val (.int p2), .val (.int p3), .val (.double (FP.l2d x)), .second] [(.int p2), (.ref sc)])) _
    refine XS.aloadN X1.here hx rfl (hb hby own_d_prog_104_method_2_code_5) rfl rfl ?_
    show Steps p.tables e below (T1.setTop (mkF m 6 #[.val (.ref a), .val (.int p1), .val (.int p2), .val (.int p3), .val (.double (FP.l2d x)), .second] [(.ref a), (.int p2), (.ref sc)])) _
    refine st2 _ ?_
    show Steps p.tables e below (T2.setTop (mkF m 9 #[.val (.ref a), .val (.int p1), .val (.int p2), .val (.int p3), .val (.double (FP.l2d x)), .second] [(.int sn), (.int p2), (.ref sc)])) _
    refine XS.imul X2.here hx rfl (hb hby own_d_prog_104_method_2_code_9) rfl ?_
    show Steps p.tables e below (T2.setTop (mkF m 10 #[.val (.ref a), .val (.int p1), .val (.int p2), .val (.int p3), .val (.double (FP.l2d x)), .second] [(.int (p2 * sn)), (.ref sc)])) _
    refine XS.iloadN X2.here hx rfl (hb hby own_d_prog_104_method_2_code_10) rfl ?_
    show Steps p.tables e below (T2.setTop (mkF m 11 #[.val (.ref a), .val (.int p1), .val (.int p2), .val (.int p3), .val (.double (FP.l2d x)), .second] [(.int p1), (.int (p2 * sn)), (.ref sc)])) _
    refine XS.iadd X2.here hx rfl (hb hby own_d_prog_104_method_2_code_11) rfl ?_
    show Steps p.tables e below (T2.setTop (mkF m 12 #[.val (.ref a), .val (.int p1), .val (.int p2), .val (.int p3), .val (.double (FP.l2d x)), .second] [(.int ((p2 * sn) + p1)), (.ref sc)])) _
    refine XS.dload X2.here hx rfl (hb hby own_d_prog_104_method_2_code_12) rfl ?_
    show Steps p.tables e below (T2.setTop (mkF m 14 #[.val (.ref a), .val (.int p1), .val (.int p2), .val (.int p3), .val (.double (FP.l2d x)), .second] [(.double (FP.l2d x)), (.int ((p2 * sn) + p1)), (.ref sc)])) _
    refine st4 _ ?_
    show Steps p.tables e below (T4.setTop (mkF m 15 #[.val (.ref a), .val (.int p1), .val (.int p2), .val (.int p3), .val (.double (FP.l2d x)), .second] [])) _
    refine XS.aloadN X4.here hx rfl (hb hby own_d_prog_104_method_2_code_15) rfl rfl ?_
    show Steps p.tables e below (T4.setTop (mkF m 16 #[.val (.ref a), .val (.int p1), .val (.int p2), .val (.int p3), .val (.double (FP.l2d x)), .second] [(.ref a)])) _
    refine st5 _ ?_
    show Steps p.tables e below (T5.setTop (mkF m 19 #[.val (.ref a), .val (.int p1), .val (.int p2), .val (.int p3), .val (.double (FP.l2d x)), .second] [(.ref dc)])) _
    refine XS.iloadN X5.here hx rfl (hb hby own_d_prog_104_method_2_code_19) rfl ?_
    show Steps p.tables e below (T5.setTop (mkF m 20 #[.val (.ref a), .val (.int p1), .val (.int p2), .val (.int p3), .val (.double (FP.l2d x)), .second] [(.int p2), (.ref dc)])) _
    refine XS.aloadN X5.here hx rfl (hb hby own_d_prog_104_method_2_code_20) rfl rfl ?_
    show Steps p.tables e below (T5.setTop (mkF m 21 #[.val (.ref a), .val (.int p1), .val (.int p2), .val (.int p3), .val (.double (FP.l2d x)), .second] [(.ref a), (.int p2), (.ref dc)])) _
    refine st6 _ ?_
    show Steps p.tables e below (T6.setTop (mkF m 24 #[.val (.ref a), .val (.int p1), .val (.int p2), .val (.int p3), .val (.double (FP.l2d x)), .second] [(.int sn), (.int p2), (.ref dc)])) _
    refine XS.imul X6.here hx rfl (hb hby own_d_prog_104_method_2_code_24) rfl ?_
    show Steps p.tables e below (T6.setTop (mkF m 25 #[.val (.ref a), .val (.int p1), .val (.int p2), .val (.int p3), .val (.double (FP.l2d x)), .second] [(.int (p2 * sn)), (.ref dc)])) _
    refine XS.iloadN X6.here hx rfl (hb hby own_d_prog_104_method_2_code_25) rfl ?_
    show Steps p.tables e below (T6.setTop (mkF m 26 #[.val (.ref a), .val (.int p1), .val (.int p2), .val (.int p3), .val (.double (FP.l2d x)), .second] [(.int p1), (.int (p2 * sn)), (.ref dc)])) _
    refine XS.iadd X6.here hx rfl (hb hby own_d_prog_104_method_2_code_26) rfl ?_
    show Steps p.tables e below (T6.setTop (mkF m 27 #[.val (.ref a), .val (.int p1), .val (.int p2), .val (.int p3), .val (.double (FP.l2d x)), .second] [(.int ((p2 * sn) + p1)), (.ref dc)])) _
    refine XS.iloadN X6.here hx rfl (hb hby own_d_prog_104_method_2_code_27) rfl ?_
    show Steps p.tables e below (T6.setTop (mkF m 28 #[.val (.ref a), .val (.int p1), .val (.int p2), .val (.int p3), .val (.double (FP.l2d x)), .second] [(.int p3), (.int ((p2 * sn) + p1)), (.ref dc)])) _
    refine st8 _ ?_
    exact kk_)
  obtain ⟨fs, hr, hrun, hended, hW, hsame⟩ := X8.leave (v := none) (fun _ => rfl)
  refine ⟨_, _, pre9 _ ?_, hrun, hended, _, _, rfl, ?_, ⟨_, rfl⟩, hW, hsame.mono (by decide) (by decide)⟩
  · show Steps p.tables e below (T8.setTop (mkF m 29 #[.val (.ref a), .val (.int p1), .val (.int p2), .val (.int p3), .val (.double (FP.l2d x)), .second] [])) _
    exact X8.returnOut hx Bd.returns (hb hby own_d_prog_104_method_2_code_29) hr
  · show QU Z a p1 p2 p3 x sc dc k1 k2 sn hs1 hs2 vs1 vs2 h0 n0 _ T8.heap _
    rw [e8]
    exact ⟨rfl, N8, K8, V8_0, V_dc_8⟩
theorem own_ef_rmS (m : MethodId) (y0 : Addr) (y1 : Int32) (y2 : Int32) : entryFrame m #[(.ref y0), (.int y1), (.int y2)] 6 = mkF m 0 #[.val (.ref y0), .val (.int y1), .val (.int y2), .unset, .unset, .unset] [] := by first | (simp [entryFrame, mkF, argsToLocals, Value.category]; done) | rfl
set_option maxRecDepth 65536 in
set_option maxHeartbeats 40000000 in
theorem rmS (l : Launch) (Z : State) (a0 : Array Value) (hw : ∀ d ∈ tables_1, d.before a0 Z = true) (ws : List Jvm.Cond) (a : Addr) (q qd : Int32) (sc dc : Addr) (k1 k2 : ClassId) (hs1 hs2 : List (Int32 × Value)) (vs1 vs2 : List Value) (v0 v1 : Int32) (x0 x1 res : Int64) (h0 : Heap) (n0 : Nat) (Z0 : n0 ≤ h0.size) (F1 : Fld Z h0 a "com/example/cranfield/cranfield/search/TermScores" "slots" "I" (.int (3 : Int32))) (F2 : Fld Z h0 a "com/example/cranfield/cranfield/search/TermScores" "scores" "[D" (.ref sc)) (F3 : Fld Z h0 a "com/example/cranfield/cranfield/search/TermScores" "documents" "[I" (.ref dc)) (A1 : Arh Z h0 sc k1 .double (6 : Int32) hs1 vs1 (.double (FP.l2d (0 : Int64)))) (A2 : Arh Z h0 dc k2 .int (6 : Int32) hs2 vs2 (.int (0 : Int32))) (j0 : ¬ q < 0 ∧ q < (6 : Int32)) (r0 : getH hs2 vs2 (.int (0 : Int32)) (q).toNatClampNeg = .int v0) (s0 : getH hs1 vs1 (.double (FP.l2d (0 : Int64))) (q).toNatClampNeg = .double (FP.l2d x0)) (b0 : own_B 1 x0) (j1 : ¬ (q + (3 : Int32)) < 0 ∧ (q + (3 : Int32)) < (6 : Int32)) (r1 : getH hs2 vs2 (.int (0 : Int32)) ((q + (3 : Int32))).toNatClampNeg = .int v1) (s1 : getH hs1 vs1 (.double (FP.l2d (0 : Int64))) ((q + (3 : Int32))).toNatClampNeg = .double (FP.l2d x1)) (b1 : own_B 1 x1) (jl : ¬ ((q + (3 : Int32)) + (3 : Int32)) < (6 : Int32)) (hres : (own_acc qd v1 x1 (own_acc qd v0 x0 (0 : Int64))) = res) :
    MetFree l (⟨"com/example/cranfield/cranfield/search/TermScores", "sum", "(II)D"⟩ : MethodName) (head1 (Jvm.Cond.code (⟨"com/example/cranfield/cranfield/search/TermScores", "sum", "(II)D"⟩ : MethodName) prog_104_method_3_code 6 (some .double) :: ws) ({ frames := 0, cells := 0, slots := 0, locals := 0 } : Room)) (fun ar_ U => ar_ = #[(.ref a), (.int q), (.int qd)] ∧ Z.Warmed39 U.vm ∧ U.heap = h0) (fun _ _ _ _ _ => True) (fun _ U o U' => ∃ v L, o = .returned v ∧ QP (.double (FP.l2d res)) h0 n0 v U'.heap L ∧ FrameEnd U o U' L ({ frames := 0, cells := 0, slots := 0, locals := 0 } : Room).cells ({ frames := 0, cells := 0, slots := 0, locals := 0 } : Room).slots) := by
  refine MetFree.of_bodySF (plainFor_of_name own_pn0) hisR ?_
  intro p e s m args below meth c s₁ Bd hml0 hP hK
  obtain ⟨rfl, hZ, hh⟩ := hP
  have hx := Bd.exec
  have hby := Bd.bytes
  have hml : c.maxLocals = 6 := hml0
  have hown : s.vm.findClass "com/example/cranfield/cranfield/search/TermScores" = some m.cls := findClass_of_methodNamed Bd.named
  have hnm := (name_of_methodNamed Bd.named Bd.method).1
  have X0 : Stand p l e ({ frames := 0, cells := 0, slots := 0, locals := 0 } : Room) s m #[(.ref a), (.int q), (.int qd)] below meth c s₁ [] 0 0 := Stand.of_body Bd
  have e0 : s₁.heap = h0 := by rw [← hh, Bd.state]; rfl
  have N0 := Fr.nil n0
  have pre0 : ∀ tt_, Steps p.tables e below (s₁.setTop (mkF m 0 #[.val (.ref a), .val (.int q), .val (.int qd), .unset, .unset, .unset] [])) tt_ → Steps p.tables e below (s₁.setTop (entryFrame m #[(.ref a), (.int q), (.int qd)] 6)) tt_ := fun tt_ kk_ => castTop (own_ef_rmS m a q qd) kk_
  obtain ⟨T1, X1, e1, st1⟩ := getF X0 hx hZ hown (host := "") (Or.inl (hw _ (List.mem_of_getElem? (i := 15) rfl))) Via.refl e0 F3 (g := (mkF m 8 #[.val (.ref a), .val (.int q), .val (.int qd), .val (.double (FP.l2d (0 : Int64))), .second, .val (.int q)] [(.ref a), (.int q)])) rfl rfl (hb hby own_d_prog_104_method_3_code_8)
  obtain ⟨cl2, Ar2, q2, S2, M2, H2, G2⟩ := id A2
  obtain ⟨T3, X3, e3, st3⟩ := getF X1 hx hZ hown (host := "") (Or.inl (hw _ (List.mem_of_getElem? (i := 15) rfl))) Via.refl e1 F3 (g := (mkF m 16 #[.val (.ref a), .val (.int q), .val (.int qd), .val (.double (FP.l2d (0 : Int64))), .second, .val (.int q)] [(.ref a)])) rfl rfl (hb hby own_d_prog_104_method_3_code_16)
  obtain ⟨cl4, Ar4, q4, S4, M4, H4, G4⟩ := id A2
  have hin4 : ¬ (q < 0 ∨ cl4.slots.size ≤ (q).toNatClampNeg) := inb_of S4 j0
  have hat4 : cl4.slots[(q).toNatClampNeg]? = some (.int v0) := atH H4 hin4 r0
  have pre5 : ∀ tt_, Steps p.tables e below (T3.setTop (mkF m 23 #[.val (.ref a), .val (.int q), .val (.int qd), .val (.double (FP.l2d (0 : Int64))), .second, .val (.int q)] [(.int qd), (.int v0)])) tt_ → Steps p.tables e below (s₁.setTop (entryFrame m #[(.ref a), (.int q), (.int qd)] 6)) tt_ := fun tt_ kk_ => pre0 tt_ (by
    show Steps p.tables e below (s₁.setTop (mkF m 0 #[.val (.ref a), .val (.int q), .val (.int qd), .unset, .unset, .unset] [])) _
    refine XS.dconst0 X0.here hx rfl (hb hby own_d_prog_104_method_3_code_0) own_dc0 ?_
    show Steps p.tables e below (s₁.setTop (mkF m 1 #[.val (.ref a), .val (.int q), .val (.int qd), .unset, .unset, .unset] [(.double (FP.l2d (0 : Int64)))])) _
    refine XS.dstoreN X0.here hx rfl (hb hby own_d_prog_104_method_3_code_1) rfl (l' := #[.val (.ref a), .val (.int q), .val (.int qd), .val (.double (FP.l2d (0 : Int64))), .second, .unset]) rfl ?_
    show Steps p.tables e below (s₁.setTop (mkF m 2 #[.val (.ref a), .val (.int q), .val (.int qd), .val (.double (FP.l2d (0 : Int64))), .second, .unset] [])) _
    refine XS.iloadN X0.here hx rfl (hb hby own_d_prog_104_method_3_code_2) rfl ?_
    show Steps p.tables e below (s₁.setTop (mkF m 3 #[.val (.ref a), .val (.int q), .val (.int qd), .val (.double (FP.l2d (0 : Int64))), .second, .unset] [(.int q)])) _
    refine XS.istore X0.here hx rfl (hb hby own_d_prog_104_method_3_code_3) rfl (l' := #[.val (.ref a), .val (.int q), .val (.int qd), .val (.double (FP.l2d (0 : Int64))), .second, .val (.int q)]) rfl ?_
    show Steps p.tables e below (s₁.setTop (mkF m 5 #[.val (.ref a), .val (.int q), .val (.int qd), .val (.double (FP.l2d (0 : Int64))), .second, .val (.int q)] [])) _
    refine XS.iload X0.here hx rfl (hb hby own_d_prog_104_method_3_code_5) rfl ?_
    show Steps p.tables e below (s₁.setTop (mkF m 7 #[.val (.ref a), .val (.int q), .val (.int qd), .val (.double (FP.l2d (0 : Int64))), .second, .val (.int q)] [(.int q)])) _
    refine XS.aloadN X0.here hx rfl (hb hby own_d_prog_104_method_3_code_7) rfl rfl ?_
    show Steps p.tables e below (s₁.setTop (mkF m 8 #[.val (.ref a), .val (.int q), .val (.int qd), .val (.double (FP.l2d (0 : Int64))), .second, .val (.int q)] [(.ref a), (.int q)])) _
    refine st1 _ ?_
    show Steps p.tables e below (T1.setTop (mkF m 11 #[.val (.ref a), .val (.int q), .val (.int qd), .val (.double (FP.l2d (0 : Int64))), .second, .val (.int q)] [(.ref dc), (.int q)])) _
    refine X1.arraylength hx (by rw [e1]; exact Ar2.1) (State.isArrayOf_alike hZ.alike Ar2.2.1) (g := (mkF m 11 #[.val (.ref a), .val (.int q), .val (.int qd), .val (.double (FP.l2d (0 : Int64))), .second, .val (.int q)] [(.ref dc), (.int q)])) rfl rfl (hb hby own_d_prog_104_method_3_code_11) _ ?_
    rw [len_of S2 M2]
    show Steps p.tables e below (T1.setTop (mkF m 12 #[.val (.ref a), .val (.int q), .val (.int qd), .val (.double (FP.l2d (0 : Int64))), .second, .val (.int q)] [(.int (6 : Int32)), (.int q)])) _
    refine XS.icmpNo X1.here hx rfl (hb hby own_d_prog_104_method_3_code_12) rfl (tlt (j0.2 : q < (6 : Int32))).2.1 ?_
    show Steps p.tables e below (T1.setTop (mkF m 15 #[.val (.ref a), .val (.int q), .val (.int qd), .val (.double (FP.l2d (0 : Int64))), .second, .val (.int q)] [])) _
    refine XS.aloadN X1.here hx rfl (hb hby own_d_prog_104_method_3_code_15) rfl rfl ?_
    show Steps p.tables e below (T1.setTop (mkF m 16 #[.val (.ref a), .val (.int q), .val (.int qd), .val (.double (FP.l2d (0 : Int64))), .second, .val (.int q)] [(.ref a)])) _
    refine st3 _ ?_
    show Steps p.tables e below (T3.setTop (mkF m 19 #[.val (.ref a), .val (.int q), .val (.int qd), .val (.double (FP.l2d (0 : Int64))), .second, .val (.int q)] [(.ref dc)])) _
    refine XS.iload X3.here hx rfl (hb hby own_d_prog_104_method_3_code_19) rfl ?_
    show Steps p.tables e below (T3.setTop (mkF m 21 #[.val (.ref a), .val (.int q), .val (.int qd), .val (.double (FP.l2d (0 : Int64))), .second, .val (.int q)] [(.int q), (.ref dc)])) _
    refine X3.iaload hx (j := q) (v := (.int v0)) (by rw [e3]; exact Ar4.1) (State.isArrayOf_alike hZ.alike Ar4.2.1) Ar4.2.2 hin4 hat4 (g := (mkF m 21 #[.val (.ref a), .val (.int q), .val (.int qd), .val (.double (FP.l2d (0 : Int64))), .second, .val (.int q)] [(.int q), (.ref dc)])) rfl rfl (hb hby own_d_prog_104_method_3_code_21) _ ?_
    show Steps p.tables e below (T3.setTop (mkF m 22 #[.val (.ref a), .val (.int q), .val (.int qd), .val (.double (FP.l2d (0 : Int64))), .second, .val (.int q)] [(.int v0)])) _
    refine XS.iloadN X3.here hx rfl (hb hby own_d_prog_104_method_3_code_22) rfl ?_
    exact kk_)
  by_cases c0 : v0 = qd
  · obtain ⟨T6, X6, e6, st6⟩ := getF X3 hx hZ hown (host := "") (Or.inl (hw _ (List.mem_of_getElem? (i := 12) rfl))) Via.refl e3 F2 (g := (mkF m 28 #[.val (.ref a), .val (.int q), .val (.int qd), .val (.double (FP.l2d (0 : Int64))), .second, .val (.int q)] [(.ref a), (.double (FP.l2d (0 : Int64)))])) rfl rfl (hb hby own_d_prog_104_method_3_code_28)
    obtain ⟨cl7, Ar7, q7, S7, M7, H7, G7⟩ := id A1
    have hin7 : ¬ (q < 0 ∨ cl7.slots.size ≤ (q).toNatClampNeg) := inb_of S7 j0
    have hat7 : cl7.slots[(q).toNatClampNeg]? = some (.double (FP.l2d x0)) := atH H7 hin7 s0
    obtain ⟨T8, X8, e8, st8⟩ := getF X6 hx hZ hown (host := "") (Or.inl (hw _ (List.mem_of_getElem? (i := 9) rfl))) Via.refl e6 F1 (g := (mkF m 39 #[.val (.ref a), .val (.int q), .val (.int qd), .val (.double (FP.l2d ((0 : Int64) + x0))), .second, .val (.int q)] [(.ref a), (.int q)])) rfl rfl (hb hby own_d_prog_104_method_3_code_39)
    obtain ⟨T9, X9, e9, st9⟩ := getF X8 hx hZ hown (host := "") (Or.inl (hw _ (List.mem_of_getElem? (i := 15) rfl))) Via.refl e8 F3 (g := (mkF m 8 #[.val (.ref a), .val (.int q), .val (.int qd), .val (.double (FP.l2d ((0 : Int64) + x0))), .second, .val (.int (q + (3 : Int32)))] [(.ref a), (.int (q + (3 : Int32)))])) rfl rfl (hb hby own_d_prog_104_method_3_code_8)
    obtain ⟨cl10, Ar10, q10, S10, M10, H10, G10⟩ := id A2
    obtain ⟨T11, X11, e11, st11⟩ := getF X9 hx hZ hown (host := "") (Or.inl (hw _ (List.mem_of_getElem? (i := 15) rfl))) Via.refl e9 F3 (g := (mkF m 16 #[.val (.ref a), .val (.int q), .val (.int qd), .val (.double (FP.l2d ((0 : Int64) + x0))), .second, .val (.int (q + (3 : Int32)))] [(.ref a)])) rfl rfl (hb hby own_d_prog_104_method_3_code_16)
    obtain ⟨cl12, Ar12, q12, S12, M12, H12, G12⟩ := id A2
    have hin12 : ¬ ((q + (3 : Int32)) < 0 ∨ cl12.slots.size ≤ ((q + (3 : Int32))).toNatClampNeg) := inb_of S12 j1
    have hat12 : cl12.slots[((q + (3 : Int32))).toNatClampNeg]? = some (.int v1) := atH H12 hin12 r1
    have pre13 : ∀ tt_, Steps p.tables e below (T11.setTop (mkF m 23 #[.val (.ref a), .val (.int q), .val (.int qd), .val (.double (FP.l2d ((0 : Int64) + x0))), .second, .val (.int (q + (3 : Int32)))] [(.int qd), (.int v1)])) tt_ → Steps p.tables e below (s₁.setTop (entryFrame m #[(.ref a), (.int q), (.int qd)] 6)) tt_ := fun tt_ kk_ => pre5 tt_ (by
      show Steps p.tables e below (T3.setTop (mkF m 23 #[.val (.ref a), .val (.int q), .val (.int qd), .val (.double (FP.l2d (0 : Int64))), .second, .val (.int q)] [(.int qd), (.int v0)])) _
      refine XS.icmpNo X3.here hx rfl (hb hby own_d_prog_104_method_3_code_23) rfl (teq (c0 : v0 = qd)).2 ?_
      show Steps p.tables e below (T3.setTop (mkF m 26 #[.val (.ref a), .val (.int q), .val (.int qd), .val (.double (FP.l2d (0 : Int64))), .second, .val (.int q)] [])) _
      refine XS.dloadN X3.here hx rfl (hb hby own_d_prog_104_method_3_code_26) rfl ?_
      show Steps p.tables e below (T3.setTop (mkF m 27 #[.val (.ref a), .val (.int q), .val (.int qd), .val (.double (FP.l2d (0 : Int64))), .second, .val (.int q)] [(.double (FP.l2d (0 : Int64)))])) _
      refine XS.aloadN X3.here hx rfl (hb hby own_d_prog_104_method_3_code_27) rfl rfl ?_
      show Steps p.tables e below (T3.setTop (mkF m 28 #[.val (.ref a), .val (.int q), .val (.int qd), .val (.double (FP.l2d (0 : Int64))), .second, .val (.int q)] [(.ref a), (.double (FP.l2d (0 : Int64)))])) _
      refine st6 _ ?_
      show Steps p.tables e below (T6.setTop (mkF m 31 #[.val (.ref a), .val (.int q), .val (.int qd), .val (.double (FP.l2d (0 : Int64))), .second, .val (.int q)] [(.ref sc), (.double (FP.l2d (0 : Int64)))])) _
      refine XS.iload X6.here hx rfl (hb hby own_d_prog_104_method_3_code_31) rfl ?_
      show Steps p.tables e below (T6.setTop (mkF m 33 #[.val (.ref a), .val (.int q), .val (.int qd), .val (.double (FP.l2d (0 : Int64))), .second, .val (.int q)] [(.int q), (.ref sc), (.double (FP.l2d (0 : Int64)))])) _
      refine X6.daload hx (j := q) (v := (.double (FP.l2d x0))) (by rw [e6]; exact Ar7.1) (State.isArrayOf_alike hZ.alike Ar7.2.1) Ar7.2.2 hin7 hat7 (g := (mkF m 33 #[.val (.ref a), .val (.int q), .val (.int qd), .val (.double (FP.l2d (0 : Int64))), .second, .val (.int q)] [(.int q), (.ref sc), (.double (FP.l2d (0 : Int64)))])) rfl rfl (hb hby own_d_prog_104_method_3_code_33) _ ?_
      show Steps p.tables e below (T6.setTop (mkF m 34 #[.val (.ref a), .val (.int q), .val (.int qd), .val (.double (FP.l2d (0 : Int64))), .second, .val (.int q)] [(.double (FP.l2d x0)), (.double (FP.l2d (0 : Int64)))])) _
      refine XS.daddS X6.here hx rfl (hb hby own_d_prog_104_method_3_code_34) rfl (nn_w (dadd_w (own_b53 own_bz (by decide) (by decide)) (own_b53 b0 (by decide) (by decide)))) (dadd_w (own_b53 own_bz (by decide) (by decide)) (own_b53 b0 (by decide) (by decide))) ?_
      show Steps p.tables e below (T6.setTop (mkF m 35 #[.val (.ref a), .val (.int q), .val (.int qd), .val (.double (FP.l2d (0 : Int64))), .second, .val (.int q)] [(.double (FP.l2d ((0 : Int64) + x0)))])) _
      refine XS.dstoreN X6.here hx rfl (hb hby own_d_prog_104_method_3_code_35) rfl (l' := #[.val (.ref a), .val (.int q), .val (.int qd), .val (.double (FP.l2d ((0 : Int64) + x0))), .second, .val (.int q)]) rfl ?_
      show Steps p.tables e below (T6.setTop (mkF m 36 #[.val (.ref a), .val (.int q), .val (.int qd), .val (.double (FP.l2d ((0 : Int64) + x0))), .second, .val (.int q)] [])) _
      refine XS.iload X6.here hx rfl (hb hby own_d_prog_104_method_3_code_36) rfl ?_
      show Steps p.tables e below (T6.setTop (mkF m 38 #[.val (.ref a), .val (.int q), .val (.int qd), .val (.double (FP.l2d ((0 : Int64) + x0))), .second, .val (.int q)] [(.int q)])) _
      refine XS.aloadN X6.here hx rfl (hb hby own_d_prog_104_method_3_code_38) rfl rfl ?_
      show Steps p.tables e below (T6.setTop (mkF m 39 #[.val (.ref a), .val (.int q), .val (.int qd), .val (.double (FP.l2d ((0 : Int64) + x0))), .second, .val (.int q)] [(.ref a), (.int q)])) _
      refine st8 _ ?_
      show Steps p.tables e below (T8.setTop (mkF m 42 #[.val (.ref a), .val (.int q), .val (.int qd), .val (.double (FP.l2d ((0 : Int64) + x0))), .second, .val (.int q)] [(.int (3 : Int32)), (.int q)])) _
      refine XS.iadd X8.here hx rfl (hb hby own_d_prog_104_method_3_code_42) rfl ?_
      show Steps p.tables e below (T8.setTop (mkF m 43 #[.val (.ref a), .val (.int q), .val (.int qd), .val (.double (FP.l2d ((0 : Int64) + x0))), .second, .val (.int q)] [(.int (q + (3 : Int32)))])) _
      refine XS.istore X8.here hx rfl (hb hby own_d_prog_104_method_3_code_43) rfl (l' := #[.val (.ref a), .val (.int q), .val (.int qd), .val (.double (FP.l2d ((0 : Int64) + x0))), .second, .val (.int (q + (3 : Int32)))]) rfl ?_
      show Steps p.tables e below (T8.setTop (mkF m 45 #[.val (.ref a), .val (.int q), .val (.int qd), .val (.double (FP.l2d ((0 : Int64) + x0))), .second, .val (.int (q + (3 : Int32)))] [])) _
      refine XS.goto X8.here hx rfl (pc0 := 45) (pc' := 5) rfl (hb hby own_d_prog_104_method_3_code_45) (by decide) (by decide) ?_
      show Steps p.tables e below (T8.setTop (mkF m 5 #[.val (.ref a), .val (.int q), .val (.int qd), .val (.double (FP.l2d ((0 : Int64) + x0))), .second, .val (.int (q + (3 : Int32)))] [])) _
      refine XS.iload X8.here hx rfl (hb hby own_d_prog_104_method_3_code_5) rfl ?_
      show Steps p.tables e below (T8.setTop (mkF m 7 #[.val (.ref a), .val (.int q), .val (.int qd), .val (.double (FP.l2d ((0 : Int64) + x0))), .second, .val (.int (q + (3 : Int32)))] [(.int (q + (3 : Int32)))])) _
      refine XS.aloadN X8.here hx rfl (hb hby own_d_prog_104_method_3_code_7) rfl rfl ?_
      show Steps p.tables e below (T8.setTop (mkF m 8 #[.val (.ref a), .val (.int q), .val (.int qd), .val (.double (FP.l2d ((0 : Int64) + x0))), .second, .val (.int (q + (3 : Int32)))] [(.ref a), (.int (q + (3 : Int32)))])) _
      refine st9 _ ?_
      show Steps p.tables e below (T9.setTop (mkF m 11 #[.val (.ref a), .val (.int q), .val (.int qd), .val (.double (FP.l2d ((0 : Int64) + x0))), .second, .val (.int (q + (3 : Int32)))] [(.ref dc), (.int (q + (3 : Int32)))])) _
      refine X9.arraylength hx (by rw [e9]; exact Ar10.1) (State.isArrayOf_alike hZ.alike Ar10.2.1) (g := (mkF m 11 #[.val (.ref a), .val (.int q), .val (.int qd), .val (.double (FP.l2d ((0 : Int64) + x0))), .second, .val (.int (q + (3 : Int32)))] [(.ref dc), (.int (q + (3 : Int32)))])) rfl rfl (hb hby own_d_prog_104_method_3_code_11) _ ?_
      rw [len_of S10 M10]
      show Steps p.tables e below (T9.setTop (mkF m 12 #[.val (.ref a), .val (.int q), .val (.int qd), .val (.double (FP.l2d ((0 : Int64) + x0))), .second, .val (.int (q + (3 : Int32)))] [(.int (6 : Int32)), (.int (q + (3 : Int32)))])) _
      refine XS.icmpNo X9.here hx rfl (hb hby own_d_prog_104_method_3_code_12) rfl (tlt (j1.2 : (q + (3 : Int32)) < (6 : Int32))).2.1 ?_
      show Steps p.tables e below (T9.setTop (mkF m 15 #[.val (.ref a), .val (.int q), .val (.int qd), .val (.double (FP.l2d ((0 : Int64) + x0))), .second, .val (.int (q + (3 : Int32)))] [])) _
      refine XS.aloadN X9.here hx rfl (hb hby own_d_prog_104_method_3_code_15) rfl rfl ?_
      show Steps p.tables e below (T9.setTop (mkF m 16 #[.val (.ref a), .val (.int q), .val (.int qd), .val (.double (FP.l2d ((0 : Int64) + x0))), .second, .val (.int (q + (3 : Int32)))] [(.ref a)])) _
      refine st11 _ ?_
      show Steps p.tables e below (T11.setTop (mkF m 19 #[.val (.ref a), .val (.int q), .val (.int qd), .val (.double (FP.l2d ((0 : Int64) + x0))), .second, .val (.int (q + (3 : Int32)))] [(.ref dc)])) _
      refine XS.iload X11.here hx rfl (hb hby own_d_prog_104_method_3_code_19) rfl ?_
      show Steps p.tables e below (T11.setTop (mkF m 21 #[.val (.ref a), .val (.int q), .val (.int qd), .val (.double (FP.l2d ((0 : Int64) + x0))), .second, .val (.int (q + (3 : Int32)))] [(.int (q + (3 : Int32))), (.ref dc)])) _
      refine X11.iaload hx (j := (q + (3 : Int32))) (v := (.int v1)) (by rw [e11]; exact Ar12.1) (State.isArrayOf_alike hZ.alike Ar12.2.1) Ar12.2.2 hin12 hat12 (g := (mkF m 21 #[.val (.ref a), .val (.int q), .val (.int qd), .val (.double (FP.l2d ((0 : Int64) + x0))), .second, .val (.int (q + (3 : Int32)))] [(.int (q + (3 : Int32))), (.ref dc)])) rfl rfl (hb hby own_d_prog_104_method_3_code_21) _ ?_
      show Steps p.tables e below (T11.setTop (mkF m 22 #[.val (.ref a), .val (.int q), .val (.int qd), .val (.double (FP.l2d ((0 : Int64) + x0))), .second, .val (.int (q + (3 : Int32)))] [(.int v1)])) _
      refine XS.iloadN X11.here hx rfl (hb hby own_d_prog_104_method_3_code_22) rfl ?_
      exact kk_)
    by_cases c1 : v1 = qd
    · obtain ⟨T14, X14, e14, st14⟩ := getF X11 hx hZ hown (host := "") (Or.inl (hw _ (List.mem_of_getElem? (i := 12) rfl))) Via.refl e11 F2 (g := (mkF m 28 #[.val (.ref a), .val (.int q), .val (.int qd), .val (.double (FP.l2d ((0 : Int64) + x0))), .second, .val (.int (q + (3 : Int32)))] [(.ref a), (.double (FP.l2d ((0 : Int64) + x0)))])) rfl rfl (hb hby own_d_prog_104_method_3_code_28)
      obtain ⟨cl15, Ar15, q15, S15, M15, H15, G15⟩ := id A1
      have hin15 : ¬ ((q + (3 : Int32)) < 0 ∨ cl15.slots.size ≤ ((q + (3 : Int32))).toNatClampNeg) := inb_of S15 j1
      have hat15 : cl15.slots[((q + (3 : Int32))).toNatClampNeg]? = some (.double (FP.l2d x1)) := atH H15 hin15 s1
      obtain ⟨T16, X16, e16, st16⟩ := getF X14 hx hZ hown (host := "") (Or.inl (hw _ (List.mem_of_getElem? (i := 9) rfl))) Via.refl e14 F1 (g := (mkF m 39 #[.val (.ref a), .val (.int q), .val (.int qd), .val (.double (FP.l2d (((0 : Int64) + x0) + x1))), .second, .val (.int (q + (3 : Int32)))] [(.ref a), (.int (q + (3 : Int32)))])) rfl rfl (hb hby own_d_prog_104_method_3_code_39)
      obtain ⟨T17, X17, e17, st17⟩ := getF X16 hx hZ hown (host := "") (Or.inl (hw _ (List.mem_of_getElem? (i := 15) rfl))) Via.refl e16 F3 (g := (mkF m 8 #[.val (.ref a), .val (.int q), .val (.int qd), .val (.double (FP.l2d (((0 : Int64) + x0) + x1))), .second, .val (.int ((q + (3 : Int32)) + (3 : Int32)))] [(.ref a), (.int ((q + (3 : Int32)) + (3 : Int32)))])) rfl rfl (hb hby own_d_prog_104_method_3_code_8)
      obtain ⟨cl18, Ar18, q18, S18, M18, H18, G18⟩ := id A2
      have pre19 : ∀ tt_, Steps p.tables e below (T17.setTop (mkF m 49 #[.val (.ref a), .val (.int q), .val (.int qd), .val (.double (FP.l2d (((0 : Int64) + x0) + x1))), .second, .val (.int ((q + (3 : Int32)) + (3 : Int32)))] [(.double (FP.l2d (((0 : Int64) + x0) + x1)))])) tt_ → Steps p.tables e below (s₁.setTop (entryFrame m #[(.ref a), (.int q), (.int qd)] 6)) tt_ := fun tt_ kk_ => pre13 tt_ (by
        show Steps p.tables e below (T11.setTop (mkF m 23 #[.val (.ref a), .val (.int q), .val (.int qd), .val (.double (FP.l2d ((0 : Int64) + x0))), .second, .val (.int (q + (3 : Int32)))] [(.int qd), (.int v1)])) _
        refine XS.icmpNo X11.here hx rfl (hb hby own_d_prog_104_method_3_code_23) rfl (teq (c1 : v1 = qd)).2 ?_
        show Steps p.tables e below (T11.setTop (mkF m 26 #[.val (.ref a), .val (.int q), .val (.int qd), .val (.double (FP.l2d ((0 : Int64) + x0))), .second, .val (.int (q + (3 : Int32)))] [])) _
        refine XS.dloadN X11.here hx rfl (hb hby own_d_prog_104_method_3_code_26) rfl ?_
        show Steps p.tables e below (T11.setTop (mkF m 27 #[.val (.ref a), .val (.int q), .val (.int qd), .val (.double (FP.l2d ((0 : Int64) + x0))), .second, .val (.int (q + (3 : Int32)))] [(.double (FP.l2d ((0 : Int64) + x0)))])) _
        refine XS.aloadN X11.here hx rfl (hb hby own_d_prog_104_method_3_code_27) rfl rfl ?_
        show Steps p.tables e below (T11.setTop (mkF m 28 #[.val (.ref a), .val (.int q), .val (.int qd), .val (.double (FP.l2d ((0 : Int64) + x0))), .second, .val (.int (q + (3 : Int32)))] [(.ref a), (.double (FP.l2d ((0 : Int64) + x0)))])) _
        refine st14 _ ?_
        show Steps p.tables e below (T14.setTop (mkF m 31 #[.val (.ref a), .val (.int q), .val (.int qd), .val (.double (FP.l2d ((0 : Int64) + x0))), .second, .val (.int (q + (3 : Int32)))] [(.ref sc), (.double (FP.l2d ((0 : Int64) + x0)))])) _
        refine XS.iload X14.here hx rfl (hb hby own_d_prog_104_method_3_code_31) rfl ?_
        show Steps p.tables e below (T14.setTop (mkF m 33 #[.val (.ref a), .val (.int q), .val (.int qd), .val (.double (FP.l2d ((0 : Int64) + x0))), .second, .val (.int (q + (3 : Int32)))] [(.int (q + (3 : Int32))), (.ref sc), (.double (FP.l2d ((0 : Int64) + x0)))])) _
        refine X14.daload hx (j := (q + (3 : Int32))) (v := (.double (FP.l2d x1))) (by rw [e14]; exact Ar15.1) (State.isArrayOf_alike hZ.alike Ar15.2.1) Ar15.2.2 hin15 hat15 (g := (mkF m 33 #[.val (.ref a), .val (.int q), .val (.int qd), .val (.double (FP.l2d ((0 : Int64) + x0))), .second, .val (.int (q + (3 : Int32)))] [(.int (q + (3 : Int32))), (.ref sc), (.double (FP.l2d ((0 : Int64) + x0)))])) rfl rfl (hb hby own_d_prog_104_method_3_code_33) _ ?_
        show Steps p.tables e below (T14.setTop (mkF m 34 #[.val (.ref a), .val (.int q), .val (.int qd), .val (.double (FP.l2d ((0 : Int64) + x0))), .second, .val (.int (q + (3 : Int32)))] [(.double (FP.l2d x1)), (.double (FP.l2d ((0 : Int64) + x0)))])) _
        refine XS.daddS X14.here hx rfl (hb hby own_d_prog_104_method_3_code_34) rfl (nn_w (dadd_w (own_b53 (own_badd own_bz b0 (by decide) (by decide) (by decide) (by decide)) (by decide) (by decide)) (own_b53 b1 (by decide) (by decide)))) (dadd_w (own_b53 (own_badd own_bz b0 (by decide) (by decide) (by decide) (by decide)) (by decide) (by decide)) (own_b53 b1 (by decide) (by decide))) ?_
        show Steps p.tables e below (T14.setTop (mkF m 35 #[.val (.ref a), .val (.int q), .val (.int qd), .val (.double (FP.l2d ((0 : Int64) + x0))), .second, .val (.int (q + (3 : Int32)))] [(.double (FP.l2d (((0 : Int64) + x0) + x1)))])) _
        refine XS.dstoreN X14.here hx rfl (hb hby own_d_prog_104_method_3_code_35) rfl (l' := #[.val (.ref a), .val (.int q), .val (.int qd), .val (.double (FP.l2d (((0 : Int64) + x0) + x1))), .second, .val (.int (q + (3 : Int32)))]) rfl ?_
        show Steps p.tables e below (T14.setTop (mkF m 36 #[.val (.ref a), .val (.int q), .val (.int qd), .val (.double (FP.l2d (((0 : Int64) + x0) + x1))), .second, .val (.int (q + (3 : Int32)))] [])) _
        refine XS.iload X14.here hx rfl (hb hby own_d_prog_104_method_3_code_36) rfl ?_
        show Steps p.tables e below (T14.setTop (mkF m 38 #[.val (.ref a), .val (.int q), .val (.int qd), .val (.double (FP.l2d (((0 : Int64) + x0) + x1))), .second, .val (.int (q + (3 : Int32)))] [(.int (q + (3 : Int32)))])) _
        refine XS.aloadN X14.here hx rfl (hb hby own_d_prog_104_method_3_code_38) rfl rfl ?_
        show Steps p.tables e below (T14.setTop (mkF m 39 #[.val (.ref a), .val (.int q), .val (.int qd), .val (.double (FP.l2d (((0 : Int64) + x0) + x1))), .second, .val (.int (q + (3 : Int32)))] [(.ref a), (.int (q + (3 : Int32)))])) _
        refine st16 _ ?_
        show Steps p.tables e below (T16.setTop (mkF m 42 #[.val (.ref a), .val (.int q), .val (.int qd), .val (.double (FP.l2d (((0 : Int64) + x0) + x1))), .second, .val (.int (q + (3 : Int32)))] [(.int (3 : Int32)), (.int (q + (3 : Int32)))])) _
        refine XS.iadd X16.here hx rfl (hb hby own_d_prog_104_method_3_code_42) rfl ?_
        show Steps p.tables e below (T16.setTop (mkF m 43 #[.val (.ref a), .val (.int q), .val (.int qd), .val (.double (FP.l2d (((0 : Int64) + x0) + x1))), .second, .val (.int (q + (3 : Int32)))] [(.int ((q + (3 : Int32)) + (3 : Int32)))])) _
        refine XS.istore X16.here hx rfl (hb hby own_d_prog_104_method_3_code_43) rfl (l' := #[.val (.ref a), .val (.int q), .val (.int qd), .val (.double (FP.l2d (((0 : Int64) + x0) + x1))), .second, .val (.int ((q + (3 : Int32)) + (3 : Int32)))]) rfl ?_
        show Steps p.tables e below (T16.setTop (mkF m 45 #[.val (.ref a), .val (.int q), .val (.int qd), .val (.double (FP.l2d (((0 : Int64) + x0) + x1))), .second, .val (.int ((q + (3 : Int32)) + (3 : Int32)))] [])) _
        refine XS.goto X16.here hx rfl (pc0 := 45) (pc' := 5) rfl (hb hby own_d_prog_104_method_3_code_45) (by decide) (by decide) ?_
        show Steps p.tables e below (T16.setTop (mkF m 5 #[.val (.ref a), .val (.int q), .val (.int qd), .val (.double (FP.l2d (((0 : Int64) + x0) + x1))), .second, .val (.int ((q + (3 : Int32)) + (3 : Int32)))] [])) _
        refine XS.iload X16.here hx rfl (hb hby own_d_prog_104_method_3_code_5) rfl ?_
        show Steps p.tables e below (T16.setTop (mkF m 7 #[.val (.ref a), .val (.int q), .val (.int qd), .val (.double (FP.l2d (((0 : Int64) + x0) + x1))), .second, .val (.int ((q + (3 : Int32)) + (3 : Int32)))] [(.int ((q + (3 : Int32)) + (3 : Int32)))])) _
        refine XS.aloadN X16.here hx rfl (hb hby own_d_prog_104_method_3_code_7) rfl rfl ?_
        show Steps p.tables e below (T16.setTop (mkF m 8 #[.val (.ref a), .val (.int q), .val (.int qd), .val (.double (FP.l2d (((0 : Int64) + x0) + x1))), .second, .val (.int ((q + (3 : Int32)) + (3 : Int32)))] [(.ref a), (.int ((q + (3 : Int32)) + (3 : Int32)))])) _
        refine st17 _ ?_
        show Steps p.tables e below (T17.setTop (mkF m 11 #[.val (.ref a), .val (.int q), .val (.int qd), .val (.double (FP.l2d (((0 : Int64) + x0) + x1))), .second, .val (.int ((q + (3 : Int32)) + (3 : Int32)))] [(.ref dc), (.int ((q + (3 : Int32)) + (3 : Int32)))])) _
        refine X17.arraylength hx (by rw [e17]; exact Ar18.1) (State.isArrayOf_alike hZ.alike Ar18.2.1) (g := (mkF m 11 #[.val (.ref a), .val (.int q), .val (.int qd), .val (.double (FP.l2d (((0 : Int64) + x0) + x1))), .second, .val (.int ((q + (3 : Int32)) + (3 : Int32)))] [(.ref dc), (.int ((q + (3 : Int32)) + (3 : Int32)))])) rfl rfl (hb hby own_d_prog_104_method_3_code_11) _ ?_
        rw [len_of S18 M18]
        show Steps p.tables e below (T17.setTop (mkF m 12 #[.val (.ref a), .val (.int q), .val (.int qd), .val (.double (FP.l2d (((0 : Int64) + x0) + x1))), .second, .val (.int ((q + (3 : Int32)) + (3 : Int32)))] [(.int (6 : Int32)), (.int ((q + (3 : Int32)) + (3 : Int32)))])) _
        refine XS.icmpYes X17.here hx rfl (pc0 := 12) (pc' := 48) rfl (hb hby own_d_prog_104_method_3_code_12) rfl (flt (jl : ¬ (((q + (3 : Int32)) + (3 : Int32)) < (6 : Int32)))).2.1 (by decide) (by decide) ?_
        show Steps p.tables e below (T17.setTop (mkF m 48 #[.val (.ref a), .val (.int q), .val (.int qd), .val (.double (FP.l2d (((0 : Int64) + x0) + x1))), .second, .val (.int ((q + (3 : Int32)) + (3 : Int32)))] [])) _
        refine XS.dloadN X17.here hx rfl (hb hby own_d_prog_104_method_3_code_48) rfl ?_
        exact kk_)
      obtain ⟨fs, hr, hrun, hended, hW, hsame⟩ := X17.leave (v := some (.double (FP.l2d (((0 : Int64) + x0) + x1)))) (fun h => by rw [Bd.returns] at h; cases h)
      refine ⟨_, _, pre19 _ ?_, hrun, hended, _, _, rfl, ?_, ⟨_, rfl⟩, hW, hsame.mono (by decide) (by decide)⟩
      · show Steps p.tables e below (T17.setTop (mkF m 49 #[.val (.ref a), .val (.int q), .val (.int qd), .val (.double (FP.l2d (((0 : Int64) + x0) + x1))), .second, .val (.int ((q + (3 : Int32)) + (3 : Int32)))] [(.double (FP.l2d (((0 : Int64) + x0) + x1)))])) _
        exact retOut X17 hx (t := .double) (i := .dreturn) Bd.returns rfl (Or.inr (Or.inr (Or.inl ⟨rfl, rfl, _, rfl⟩))) (hb hby own_d_prog_104_method_3_code_49) hr
      · show QP (.double (FP.l2d res)) h0 n0 _ T17.heap _
        rw [e17]
        exact ⟨by rw [← hres]; simp only [own_acc, if_pos c0, if_pos c1], N0, rfl⟩
    · obtain ⟨T20, X20, e20, st20⟩ := getF X11 hx hZ hown (host := "") (Or.inl (hw _ (List.mem_of_getElem? (i := 9) rfl))) Via.refl e11 F1 (g := (mkF m 39 #[.val (.ref a), .val (.int q), .val (.int qd), .val (.double (FP.l2d ((0 : Int64) + x0))), .second, .val (.int (q + (3 : Int32)))] [(.ref a), (.int (q + (3 : Int32)))])) rfl rfl (hb hby own_d_prog_104_method_3_code_39)
      obtain ⟨T21, X21, e21, st21⟩ := getF X20 hx hZ hown (host := "") (Or.inl (hw _ (List.mem_of_getElem? (i := 15) rfl))) Via.refl e20 F3 (g := (mkF m 8 #[.val (.ref a), .val (.int q), .val (.int qd), .val (.double (FP.l2d ((0 : Int64) + x0))), .second, .val (.int ((q + (3 : Int32)) + (3 : Int32)))] [(.ref a), (.int ((q + (3 : Int32)) + (3 : Int32)))])) rfl rfl (hb hby own_d_prog_104_method_3_code_8)
      obtain ⟨cl22, Ar22, q22, S22, M22, H22, G22⟩ := id A2
      have pre23 : ∀ tt_, Steps p.tables e below (T21.setTop (mkF m 49 #[.val (.ref a), .val (.int q), .val (.int qd), .val (.double (FP.l2d ((0 : Int64) + x0))), .second, .val (.int ((q + (3 : Int32)) + (3 : Int32)))] [(.double (FP.l2d ((0 : Int64) + x0)))])) tt_ → Steps p.tables e below (s₁.setTop (entryFrame m #[(.ref a), (.int q), (.int qd)] 6)) tt_ := fun tt_ kk_ => pre13 tt_ (by
        show Steps p.tables e below (T11.setTop (mkF m 23 #[.val (.ref a), .val (.int q), .val (.int qd), .val (.double (FP.l2d ((0 : Int64) + x0))), .second, .val (.int (q + (3 : Int32)))] [(.int qd), (.int v1)])) _
        refine XS.icmpYes X11.here hx rfl (pc0 := 23) (pc' := 36) rfl (hb hby own_d_prog_104_method_3_code_23) rfl (feq (c1 : ¬ (v1 = qd))).2 (by decide) (by decide) ?_
        show Steps p.tables e below (T11.setTop (mkF m 36 #[.val (.ref a), .val (.int q), .val (.int qd), .val (.double (FP.l2d ((0 : Int64) + x0))), .second, .val (.int (q + (3 : Int32)))] [])) _
        refine XS.iload X11.here hx rfl (hb hby own_d_prog_104_method_3_code_36) rfl ?_
        show Steps p.tables e below (T11.setTop (mkF m 38 #[.val (.ref a), .val (.int q), .val (.int qd), .val (.double (FP.l2d ((0 : Int64) + x0))), .second, .val (.int (q + (3 : Int32)))] [(.int (q + (3 : Int32)))])) _
        refine XS.aloadN X11.here hx rfl (hb hby own_d_prog_104_method_3_code_38) rfl rfl ?_
        show Steps p.tables e below (T11.setTop (mkF m 39 #[.val (.ref a), .val (.int q), .val (.int qd), .val (.double (FP.l2d ((0 : Int64) + x0))), .second, .val (.int (q + (3 : Int32)))] [(.ref a), (.int (q + (3 : Int32)))])) _
        refine st20 _ ?_
        show Steps p.tables e below (T20.setTop (mkF m 42 #[.val (.ref a), .val (.int q), .val (.int qd), .val (.double (FP.l2d ((0 : Int64) + x0))), .second, .val (.int (q + (3 : Int32)))] [(.int (3 : Int32)), (.int (q + (3 : Int32)))])) _
        refine XS.iadd X20.here hx rfl (hb hby own_d_prog_104_method_3_code_42) rfl ?_
        show Steps p.tables e below (T20.setTop (mkF m 43 #[.val (.ref a), .val (.int q), .val (.int qd), .val (.double (FP.l2d ((0 : Int64) + x0))), .second, .val (.int (q + (3 : Int32)))] [(.int ((q + (3 : Int32)) + (3 : Int32)))])) _
        refine XS.istore X20.here hx rfl (hb hby own_d_prog_104_method_3_code_43) rfl (l' := #[.val (.ref a), .val (.int q), .val (.int qd), .val (.double (FP.l2d ((0 : Int64) + x0))), .second, .val (.int ((q + (3 : Int32)) + (3 : Int32)))]) rfl ?_
        show Steps p.tables e below (T20.setTop (mkF m 45 #[.val (.ref a), .val (.int q), .val (.int qd), .val (.double (FP.l2d ((0 : Int64) + x0))), .second, .val (.int ((q + (3 : Int32)) + (3 : Int32)))] [])) _
        refine XS.goto X20.here hx rfl (pc0 := 45) (pc' := 5) rfl (hb hby own_d_prog_104_method_3_code_45) (by decide) (by decide) ?_
        show Steps p.tables e below (T20.setTop (mkF m 5 #[.val (.ref a), .val (.int q), .val (.int qd), .val (.double (FP.l2d ((0 : Int64) + x0))), .second, .val (.int ((q + (3 : Int32)) + (3 : Int32)))] [])) _
        refine XS.iload X20.here hx rfl (hb hby own_d_prog_104_method_3_code_5) rfl ?_
        show Steps p.tables e below (T20.setTop (mkF m 7 #[.val (.ref a), .val (.int q), .val (.int qd), .val (.double (FP.l2d ((0 : Int64) + x0))), .second, .val (.int ((q + (3 : Int32)) + (3 : Int32)))] [(.int ((q + (3 : Int32)) + (3 : Int32)))])) _
        refine XS.aloadN X20.here hx rfl (hb hby own_d_prog_104_method_3_code_7) rfl rfl ?_
        show Steps p.tables e below (T20.setTop (mkF m 8 #[.val (.ref a), .val (.int q), .val (.int qd), .val (.double (FP.l2d ((0 : Int64) + x0))), .second, .val (.int ((q + (3 : Int32)) + (3 : Int32)))] [(.ref a), (.int ((q + (3 : Int32)) + (3 : Int32)))])) _
        refine st21 _ ?_
        show Steps p.tables e below (T21.setTop (mkF m 11 #[.val (.ref a), .val (.int q), .val (.int qd), .val (.double (FP.l2d ((0 : Int64) + x0))), .second, .val (.int ((q + (3 : Int32)) + (3 : Int32)))] [(.ref dc), (.int ((q + (3 : Int32)) + (3 : Int32)))])) _
        refine X21.arraylength hx (by rw [e21]; exact Ar22.1) (State.isArrayOf_alike hZ.alike Ar22.2.1) (g := (mkF m 11 #[.val (.ref a), .val (.int q), .val (.int qd), .val (.double (FP.l2d ((0 : Int64) + x0))), .second, .val (.int ((q + (3 : Int32)) + (3 : Int32)))] [(.ref dc), (.int ((q + (3 : Int32)) + (3 : Int32)))])) rfl rfl (hb hby own_d_prog_104_method_3_code_11) _ ?_
        rw [len_of S22 M22]
        show Steps p.tables e below (T21.setTop (mkF m 12 #[.val (.ref a), .val (.int q), .val (.int qd), .val (.double (FP.l2d ((0 : Int64) + x0))), .second, .val (.int ((q + (3 : Int32)) + (3 : Int32)))] [(.int (6 : Int32)), (.int ((q + (3 : Int32)) + (3 : Int32)))])) _
        refine XS.icmpYes X21.here hx rfl (pc0 := 12) (pc' := 48) rfl (hb hby own_d_prog_104_method_3_code_12) rfl (flt (jl : ¬ (((q + (3 : Int32)) + (3 : Int32)) < (6 : Int32)))).2.1 (by decide) (by decide) ?_
        show Steps p.tables e below (T21.setTop (mkF m 48 #[.val (.ref a), .val (.int q), .val (.int qd), .val (.double (FP.l2d ((0 : Int64) + x0))), .second, .val (.int ((q + (3 : Int32)) + (3 : Int32)))] [])) _
        refine XS.dloadN X21.here hx rfl (hb hby own_d_prog_104_method_3_code_48) rfl ?_
        exact kk_)
      obtain ⟨fs, hr, hrun, hended, hW, hsame⟩ := X21.leave (v := some (.double (FP.l2d ((0 : Int64) + x0)))) (fun h => by rw [Bd.returns] at h; cases h)
      refine ⟨_, _, pre23 _ ?_, hrun, hended, _, _, rfl, ?_, ⟨_, rfl⟩, hW, hsame.mono (by decide) (by decide)⟩
      · show Steps p.tables e below (T21.setTop (mkF m 49 #[.val (.ref a), .val (.int q), .val (.int qd), .val (.double (FP.l2d ((0 : Int64) + x0))), .second, .val (.int ((q + (3 : Int32)) + (3 : Int32)))] [(.double (FP.l2d ((0 : Int64) + x0)))])) _
        exact retOut X21 hx (t := .double) (i := .dreturn) Bd.returns rfl (Or.inr (Or.inr (Or.inl ⟨rfl, rfl, _, rfl⟩))) (hb hby own_d_prog_104_method_3_code_49) hr
      · show QP (.double (FP.l2d res)) h0 n0 _ T21.heap _
        rw [e21]
        exact ⟨by rw [← hres]; simp only [own_acc, if_pos c0, if_neg c1], N0, rfl⟩
  · obtain ⟨T24, X24, e24, st24⟩ := getF X3 hx hZ hown (host := "") (Or.inl (hw _ (List.mem_of_getElem? (i := 9) rfl))) Via.refl e3 F1 (g := (mkF m 39 #[.val (.ref a), .val (.int q), .val (.int qd), .val (.double (FP.l2d (0 : Int64))), .second, .val (.int q)] [(.ref a), (.int q)])) rfl rfl (hb hby own_d_prog_104_method_3_code_39)
    obtain ⟨T25, X25, e25, st25⟩ := getF X24 hx hZ hown (host := "") (Or.inl (hw _ (List.mem_of_getElem? (i := 15) rfl))) Via.refl e24 F3 (g := (mkF m 8 #[.val (.ref a), .val (.int q), .val (.int qd), .val (.double (FP.l2d (0 : Int64))), .second, .val (.int (q + (3 : Int32)))] [(.ref a), (.int (q + (3 : Int32)))])) rfl rfl (hb hby own_d_prog_104_method_3_code_8)
    obtain ⟨cl26, Ar26, q26, S26, M26, H26, G26⟩ := id A2
    obtain ⟨T27, X27, e27, st27⟩ := getF X25 hx hZ hown (host := "") (Or.inl (hw _ (List.mem_of_getElem? (i := 15) rfl))) Via.refl e25 F3 (g := (mkF m 16 #[.val (.ref a), .val (.int q), .val (.int qd), .val (.double (FP.l2d (0 : Int64))), .second, .val (.int (q + (3 : Int32)))] [(.ref a)])) rfl rfl (hb hby own_d_prog_104_method_3_code_16)
    obtain ⟨cl28, Ar28, q28, S28, M28, H28, G28⟩ := id A2
    have hin28 : ¬ ((q + (3 : Int32)) < 0 ∨ cl28.slots.size ≤ ((q + (3 : Int32))).toNatClampNeg) := inb_of S28 j1
    have hat28 : cl28.slots[((q + (3 : Int32))).toNatClampNeg]? = some (.int v1) := atH H28 hin28 r1
    have pre29 : ∀ tt_, Steps p.tables e below (T27.setTop (mkF m 23 #[.val (.ref a), .val (.int q), .val (.int qd), .val (.double (FP.l2d (0 : Int64))), .second, .val (.int (q + (3 : Int32)))] [(.int qd), (.int v1)])) tt_ → Steps p.tables e below (s₁.setTop (entryFrame m #[(.ref a), (.int q), (.int qd)] 6)) tt_ := fun tt_ kk_ => pre5 tt_ (by
      show Steps p.tables e below (T3.setTop (mkF m 23 #[.val (.ref a), .val (.int q), .val (.int qd), .val (.double (FP.l2d (0 : Int64))), .second, .val (.int q)] [(.int qd), (.int v0)])) _
      refine XS.icmpYes X3.here hx rfl (pc0 := 23) (pc' := 36) rfl (hb hby own_d_prog_104_method_3_code_23) rfl (feq (c0 : ¬ (v0 = qd))).2 (by decide) (by decide) ?_
      show Steps p.tables e below (T3.setTop (mkF m 36 #[.val (.ref a), .val (.int q), .val (.int qd), .val (.double (FP.l2d (0 : Int64))), .second, .val (.int q)] [])) _
      refine XS.iload X3.here hx rfl (hb hby own_d_prog_104_method_3_code_36) rfl ?_
      show Steps p.tables e below (T3.setTop (mkF m 38 #[.val (.ref a), .val (.int q), .val (.int qd), .val (.double (FP.l2d (0 : Int64))), .second, .val (.int q)] [(.int q)])) _
      refine XS.aloadN X3.here hx rfl (hb hby own_d_prog_104_method_3_code_38) rfl rfl ?_
      show Steps p.tables e below (T3.setTop (mkF m 39 #[.val (.ref a), .val (.int q), .val (.int qd), .val (.double (FP.l2d (0 : Int64))), .second, .val (.int q)] [(.ref a), (.int q)])) _
      refine st24 _ ?_
      show Steps p.tables e below (T24.setTop (mkF m 42 #[.val (.ref a), .val (.int q), .val (.int qd), .val (.double (FP.l2d (0 : Int64))), .second, .val (.int q)] [(.int (3 : Int32)), (.int q)])) _
      refine XS.iadd X24.here hx rfl (hb hby own_d_prog_104_method_3_code_42) rfl ?_
      show Steps p.tables e below (T24.setTop (mkF m 43 #[.val (.ref a), .val (.int q), .val (.int qd), .val (.double (FP.l2d (0 : Int64))), .second, .val (.int q)] [(.int (q + (3 : Int32)))])) _
      refine XS.istore X24.here hx rfl (hb hby own_d_prog_104_method_3_code_43) rfl (l' := #[.val (.ref a), .val (.int q), .val (.int qd), .val (.double (FP.l2d (0 : Int64))), .second, .val (.int (q + (3 : Int32)))]) rfl ?_
      show Steps p.tables e below (T24.setTop (mkF m 45 #[.val (.ref a), .val (.int q), .val (.int qd), .val (.double (FP.l2d (0 : Int64))), .second, .val (.int (q + (3 : Int32)))] [])) _
      refine XS.goto X24.here hx rfl (pc0 := 45) (pc' := 5) rfl (hb hby own_d_prog_104_method_3_code_45) (by decide) (by decide) ?_
      show Steps p.tables e below (T24.setTop (mkF m 5 #[.val (.ref a), .val (.int q), .val (.int qd), .val (.double (FP.l2d (0 : Int64))), .second, .val (.int (q + (3 : Int32)))] [])) _
      refine XS.iload X24.here hx rfl (hb hby own_d_prog_104_method_3_code_5) rfl ?_
      show Steps p.tables e below (T24.setTop (mkF m 7 #[.val (.ref a), .val (.int q), .val (.int qd), .val (.double (FP.l2d (0 : Int64))), .second, .val (.int (q + (3 : Int32)))] [(.int (q + (3 : Int32)))])) _
      refine XS.aloadN X24.here hx rfl (hb hby own_d_prog_104_method_3_code_7) rfl rfl ?_
      show Steps p.tables e below (T24.setTop (mkF m 8 #[.val (.ref a), .val (.int q), .val (.int qd), .val (.double (FP.l2d (0 : Int64))), .second, .val (.int (q + (3 : Int32)))] [(.ref a), (.int (q + (3 : Int32)))])) _
      refine st25 _ ?_
      show Steps p.tables e below (T25.setTop (mkF m 11 #[.val (.ref a), .val (.int q), .val (.int qd), .val (.double (FP.l2d (0 : Int64))), .second, .val (.int (q + (3 : Int32)))] [(.ref dc), (.int (q + (3 : Int32)))])) _
      refine X25.arraylength hx (by rw [e25]; exact Ar26.1) (State.isArrayOf_alike hZ.alike Ar26.2.1) (g := (mkF m 11 #[.val (.ref a), .val (.int q), .val (.int qd), .val (.double (FP.l2d (0 : Int64))), .second, .val (.int (q + (3 : Int32)))] [(.ref dc), (.int (q + (3 : Int32)))])) rfl rfl (hb hby own_d_prog_104_method_3_code_11) _ ?_
      rw [len_of S26 M26]
      show Steps p.tables e below (T25.setTop (mkF m 12 #[.val (.ref a), .val (.int q), .val (.int qd), .val (.double (FP.l2d (0 : Int64))), .second, .val (.int (q + (3 : Int32)))] [(.int (6 : Int32)), (.int (q + (3 : Int32)))])) _
      refine XS.icmpNo X25.here hx rfl (hb hby own_d_prog_104_method_3_code_12) rfl (tlt (j1.2 : (q + (3 : Int32)) < (6 : Int32))).2.1 ?_
      show Steps p.tables e below (T25.setTop (mkF m 15 #[.val (.ref a), .val (.int q), .val (.int qd), .val (.double (FP.l2d (0 : Int64))), .second, .val (.int (q + (3 : Int32)))] [])) _
      refine XS.aloadN X25.here hx rfl (hb hby own_d_prog_104_method_3_code_15) rfl rfl ?_
      show Steps p.tables e below (T25.setTop (mkF m 16 #[.val (.ref a), .val (.int q), .val (.int qd), .val (.double (FP.l2d (0 : Int64))), .second, .val (.int (q + (3 : Int32)))] [(.ref a)])) _
      refine st27 _ ?_
      show Steps p.tables e below (T27.setTop (mkF m 19 #[.val (.ref a), .val (.int q), .val (.int qd), .val (.double (FP.l2d (0 : Int64))), .second, .val (.int (q + (3 : Int32)))] [(.ref dc)])) _
      refine XS.iload X27.here hx rfl (hb hby own_d_prog_104_method_3_code_19) rfl ?_
      show Steps p.tables e below (T27.setTop (mkF m 21 #[.val (.ref a), .val (.int q), .val (.int qd), .val (.double (FP.l2d (0 : Int64))), .second, .val (.int (q + (3 : Int32)))] [(.int (q + (3 : Int32))), (.ref dc)])) _
      refine X27.iaload hx (j := (q + (3 : Int32))) (v := (.int v1)) (by rw [e27]; exact Ar28.1) (State.isArrayOf_alike hZ.alike Ar28.2.1) Ar28.2.2 hin28 hat28 (g := (mkF m 21 #[.val (.ref a), .val (.int q), .val (.int qd), .val (.double (FP.l2d (0 : Int64))), .second, .val (.int (q + (3 : Int32)))] [(.int (q + (3 : Int32))), (.ref dc)])) rfl rfl (hb hby own_d_prog_104_method_3_code_21) _ ?_
      show Steps p.tables e below (T27.setTop (mkF m 22 #[.val (.ref a), .val (.int q), .val (.int qd), .val (.double (FP.l2d (0 : Int64))), .second, .val (.int (q + (3 : Int32)))] [(.int v1)])) _
      refine XS.iloadN X27.here hx rfl (hb hby own_d_prog_104_method_3_code_22) rfl ?_
      exact kk_)
    by_cases c1 : v1 = qd
    · obtain ⟨T30, X30, e30, st30⟩ := getF X27 hx hZ hown (host := "") (Or.inl (hw _ (List.mem_of_getElem? (i := 12) rfl))) Via.refl e27 F2 (g := (mkF m 28 #[.val (.ref a), .val (.int q), .val (.int qd), .val (.double (FP.l2d (0 : Int64))), .second, .val (.int (q + (3 : Int32)))] [(.ref a), (.double (FP.l2d (0 : Int64)))])) rfl rfl (hb hby own_d_prog_104_method_3_code_28)
      obtain ⟨cl31, Ar31, q31, S31, M31, H31, G31⟩ := id A1
      have hin31 : ¬ ((q + (3 : Int32)) < 0 ∨ cl31.slots.size ≤ ((q + (3 : Int32))).toNatClampNeg) := inb_of S31 j1
      have hat31 : cl31.slots[((q + (3 : Int32))).toNatClampNeg]? = some (.double (FP.l2d x1)) := atH H31 hin31 s1
      obtain ⟨T32, X32, e32, st32⟩ := getF X30 hx hZ hown (host := "") (Or.inl (hw _ (List.mem_of_getElem? (i := 9) rfl))) Via.refl e30 F1 (g := (mkF m 39 #[.val (.ref a), .val (.int q), .val (.int qd), .val (.double (FP.l2d ((0 : Int64) + x1))), .second, .val (.int (q + (3 : Int32)))] [(.ref a), (.int (q + (3 : Int32)))])) rfl rfl (hb hby own_d_prog_104_method_3_code_39)
      obtain ⟨T33, X33, e33, st33⟩ := getF X32 hx hZ hown (host := "") (Or.inl (hw _ (List.mem_of_getElem? (i := 15) rfl))) Via.refl e32 F3 (g := (mkF m 8 #[.val (.ref a), .val (.int q), .val (.int qd), .val (.double (FP.l2d ((0 : Int64) + x1))), .second, .val (.int ((q + (3 : Int32)) + (3 : Int32)))] [(.ref a), (.int ((q + (3 : Int32)) + (3 : Int32)))])) rfl rfl (hb hby own_d_prog_104_method_3_code_8)
      obtain ⟨cl34, Ar34, q34, S34, M34, H34, G34⟩ := id A2
      have pre35 : ∀ tt_, Steps p.tables e below (T33.setTop (mkF m 49 #[.val (.ref a), .val (.int q), .val (.int qd), .val (.double (FP.l2d ((0 : Int64) + x1))), .second, .val (.int ((q + (3 : Int32)) + (3 : Int32)))] [(.double (FP.l2d ((0 : Int64) + x1)))])) tt_ → Steps p.tables e below (s₁.setTop (entryFrame m #[(.ref a), (.int q), (.int qd)] 6)) tt_ := fun tt_ kk_ => pre29 tt_ (by
        show Steps p.tables e below (T27.setTop (mkF m 23 #[.val (.ref a), .val (.int q), .val (.int qd), .val (.double (FP.l2d (0 : Int64))), .second, .val (.int (q + (3 : Int32)))] [(.int qd), (.int v1)])) _
        refine XS.icmpNo X27.here hx rfl (hb hby own_d_prog_104_method_3_code_23) rfl (teq (c1 : v1 = qd)).2 ?_
        show Steps p.tables e below (T27.setTop (mkF m 26 #[.val (.ref a), .val (.int q), .val (.int qd), .val (.double (FP.l2d (0 : Int64))), .second, .val (.int (q + (3 : Int32)))] [])) _
        refine XS.dloadN X27.here hx rfl (hb hby own_d_prog_104_method_3_code_26) rfl ?_
        show Steps p.tables e below (T27.setTop (mkF m 27 #[.val (.ref a), .val (.int q), .val (.int qd), .val (.double (FP.l2d (0 : Int64))), .second, .val (.int (q + (3 : Int32)))] [(.double (FP.l2d (0 : Int64)))])) _
        refine XS.aloadN X27.here hx rfl (hb hby own_d_prog_104_method_3_code_27) rfl rfl ?_
        show Steps p.tables e below (T27.setTop (mkF m 28 #[.val (.ref a), .val (.int q), .val (.int qd), .val (.double (FP.l2d (0 : Int64))), .second, .val (.int (q + (3 : Int32)))] [(.ref a), (.double (FP.l2d (0 : Int64)))])) _
        refine st30 _ ?_
        show Steps p.tables e below (T30.setTop (mkF m 31 #[.val (.ref a), .val (.int q), .val (.int qd), .val (.double (FP.l2d (0 : Int64))), .second, .val (.int (q + (3 : Int32)))] [(.ref sc), (.double (FP.l2d (0 : Int64)))])) _
        refine XS.iload X30.here hx rfl (hb hby own_d_prog_104_method_3_code_31) rfl ?_
        show Steps p.tables e below (T30.setTop (mkF m 33 #[.val (.ref a), .val (.int q), .val (.int qd), .val (.double (FP.l2d (0 : Int64))), .second, .val (.int (q + (3 : Int32)))] [(.int (q + (3 : Int32))), (.ref sc), (.double (FP.l2d (0 : Int64)))])) _
        refine X30.daload hx (j := (q + (3 : Int32))) (v := (.double (FP.l2d x1))) (by rw [e30]; exact Ar31.1) (State.isArrayOf_alike hZ.alike Ar31.2.1) Ar31.2.2 hin31 hat31 (g := (mkF m 33 #[.val (.ref a), .val (.int q), .val (.int qd), .val (.double (FP.l2d (0 : Int64))), .second, .val (.int (q + (3 : Int32)))] [(.int (q + (3 : Int32))), (.ref sc), (.double (FP.l2d (0 : Int64)))])) rfl rfl (hb hby own_d_prog_104_method_3_code_33) _ ?_
        show Steps p.tables e below (T30.setTop (mkF m 34 #[.val (.ref a), .val (.int q), .val (.int qd), .val (.double (FP.l2d (0 : Int64))), .second, .val (.int (q + (3 : Int32)))] [(.double (FP.l2d x1)), (.double (FP.l2d (0 : Int64)))])) _
        refine XS.daddS X30.here hx rfl (hb hby own_d_prog_104_method_3_code_34) rfl (nn_w (dadd_w (own_b53 own_bz (by decide) (by decide)) (own_b53 b1 (by decide) (by decide)))) (dadd_w (own_b53 own_bz (by decide) (by decide)) (own_b53 b1 (by decide) (by decide))) ?_
        show Steps p.tables e below (T30.setTop (mkF m 35 #[.val (.ref a), .val (.int q), .val (.int qd), .val (.double (FP.l2d (0 : Int64))), .second, .val (.int (q + (3 : Int32)))] [(.double (FP.l2d ((0 : Int64) + x1)))])) _
        refine XS.dstoreN X30.here hx rfl (hb hby own_d_prog_104_method_3_code_35) rfl (l' := #[.val (.ref a), .val (.int q), .val (.int qd), .val (.double (FP.l2d ((0 : Int64) + x1))), .second, .val (.int (q + (3 : Int32)))]) rfl ?_
        show Steps p.tables e below (T30.setTop (mkF m 36 #[.val (.ref a), .val (.int q), .val (.int qd), .val (.double (FP.l2d ((0 : Int64) + x1))), .second, .val (.int (q + (3 : Int32)))] [])) _
        refine XS.iload X30.here hx rfl (hb hby own_d_prog_104_method_3_code_36) rfl ?_
        show Steps p.tables e below (T30.setTop (mkF m 38 #[.val (.ref a), .val (.int q), .val (.int qd), .val (.double (FP.l2d ((0 : Int64) + x1))), .second, .val (.int (q + (3 : Int32)))] [(.int (q + (3 : Int32)))])) _
        refine XS.aloadN X30.here hx rfl (hb hby own_d_prog_104_method_3_code_38) rfl rfl ?_
        show Steps p.tables e below (T30.setTop (mkF m 39 #[.val (.ref a), .val (.int q), .val (.int qd), .val (.double (FP.l2d ((0 : Int64) + x1))), .second, .val (.int (q + (3 : Int32)))] [(.ref a), (.int (q + (3 : Int32)))])) _
        refine st32 _ ?_
        show Steps p.tables e below (T32.setTop (mkF m 42 #[.val (.ref a), .val (.int q), .val (.int qd), .val (.double (FP.l2d ((0 : Int64) + x1))), .second, .val (.int (q + (3 : Int32)))] [(.int (3 : Int32)), (.int (q + (3 : Int32)))])) _
        refine XS.iadd X32.here hx rfl (hb hby own_d_prog_104_method_3_code_42) rfl ?_
        show Steps p.tables e below (T32.setTop (mkF m 43 #[.val (.ref a), .val (.int q), .val (.int qd), .val (.double (FP.l2d ((0 : Int64) + x1))), .second, .val (.int (q + (3 : Int32)))] [(.int ((q + (3 : Int32)) + (3 : Int32)))])) _
        refine XS.istore X32.here hx rfl (hb hby own_d_prog_104_method_3_code_43) rfl (l' := #[.val (.ref a), .val (.int q), .val (.int qd), .val (.double (FP.l2d ((0 : Int64) + x1))), .second, .val (.int ((q + (3 : Int32)) + (3 : Int32)))]) rfl ?_
        show Steps p.tables e below (T32.setTop (mkF m 45 #[.val (.ref a), .val (.int q), .val (.int qd), .val (.double (FP.l2d ((0 : Int64) + x1))), .second, .val (.int ((q + (3 : Int32)) + (3 : Int32)))] [])) _
        refine XS.goto X32.here hx rfl (pc0 := 45) (pc' := 5) rfl (hb hby own_d_prog_104_method_3_code_45) (by decide) (by decide) ?_
        show Steps p.tables e below (T32.setTop (mkF m 5 #[.val (.ref a), .val (.int q), .val (.int qd), .val (.double (FP.l2d ((0 : Int64) + x1))), .second, .val (.int ((q + (3 : Int32)) + (3 : Int32)))] [])) _
        refine XS.iload X32.here hx rfl (hb hby own_d_prog_104_method_3_code_5) rfl ?_
        show Steps p.tables e below (T32.setTop (mkF m 7 #[.val (.ref a), .val (.int q), .val (.int qd), .val (.double (FP.l2d ((0 : Int64) + x1))), .second, .val (.int ((q + (3 : Int32)) + (3 : Int32)))] [(.int ((q + (3 : Int32)) + (3 : Int32)))])) _
        refine XS.aloadN X32.here hx rfl (hb hby own_d_prog_104_method_3_code_7) rfl rfl ?_
        show Steps p.tables e below (T32.setTop (mkF m 8 #[.val (.ref a), .val (.int q), .val (.int qd), .val (.double (FP.l2d ((0 : Int64) + x1))), .second, .val (.int ((q + (3 : Int32)) + (3 : Int32)))] [(.ref a), (.int ((q + (3 : Int32)) + (3 : Int32)))])) _
        refine st33 _ ?_
        show Steps p.tables e below (T33.setTop (mkF m 11 #[.val (.ref a), .val (.int q), .val (.int qd), .val (.double (FP.l2d ((0 : Int64) + x1))), .second, .val (.int ((q + (3 : Int32)) + (3 : Int32)))] [(.ref dc), (.int ((q + (3 : Int32)) + (3 : Int32)))])) _
        refine X33.arraylength hx (by rw [e33]; exact Ar34.1) (State.isArrayOf_alike hZ.alike Ar34.2.1) (g := (mkF m 11 #[.val (.ref a), .val (.int q), .val (.int qd), .val (.double (FP.l2d ((0 : Int64) + x1))), .second, .val (.int ((q + (3 : Int32)) + (3 : Int32)))] [(.ref dc), (.int ((q + (3 : Int32)) + (3 : Int32)))])) rfl rfl (hb hby own_d_prog_104_method_3_code_11) _ ?_
        rw [len_of S34 M34]
        show Steps p.tables e below (T33.setTop (mkF m 12 #[.val (.ref a), .val (.int q), .val (.int qd), .val (.double (FP.l2d ((0 : Int64) + x1))), .second, .val (.int ((q + (3 : Int32)) + (3 : Int32)))] [(.int (6 : Int32)), (.int ((q + (3 : Int32)) + (3 : Int32)))])) _
        refine XS.icmpYes X33.here hx rfl (pc0 := 12) (pc' := 48) rfl (hb hby own_d_prog_104_method_3_code_12) rfl (flt (jl : ¬ (((q + (3 : Int32)) + (3 : Int32)) < (6 : Int32)))).2.1 (by decide) (by decide) ?_
        show Steps p.tables e below (T33.setTop (mkF m 48 #[.val (.ref a), .val (.int q), .val (.int qd), .val (.double (FP.l2d ((0 : Int64) + x1))), .second, .val (.int ((q + (3 : Int32)) + (3 : Int32)))] [])) _
        refine XS.dloadN X33.here hx rfl (hb hby own_d_prog_104_method_3_code_48) rfl ?_
        exact kk_)
      obtain ⟨fs, hr, hrun, hended, hW, hsame⟩ := X33.leave (v := some (.double (FP.l2d ((0 : Int64) + x1)))) (fun h => by rw [Bd.returns] at h; cases h)
      refine ⟨_, _, pre35 _ ?_, hrun, hended, _, _, rfl, ?_, ⟨_, rfl⟩, hW, hsame.mono (by decide) (by decide)⟩
      · show Steps p.tables e below (T33.setTop (mkF m 49 #[.val (.ref a), .val (.int q), .val (.int qd), .val (.double (FP.l2d ((0 : Int64) + x1))), .second, .val (.int ((q + (3 : Int32)) + (3 : Int32)))] [(.double (FP.l2d ((0 : Int64) + x1)))])) _
        exact retOut X33 hx (t := .double) (i := .dreturn) Bd.returns rfl (Or.inr (Or.inr (Or.inl ⟨rfl, rfl, _, rfl⟩))) (hb hby own_d_prog_104_method_3_code_49) hr
      · show QP (.double (FP.l2d res)) h0 n0 _ T33.heap _
        rw [e33]
        exact ⟨by rw [← hres]; simp only [own_acc, if_neg c0, if_pos c1], N0, rfl⟩
    · obtain ⟨T36, X36, e36, st36⟩ := getF X27 hx hZ hown (host := "") (Or.inl (hw _ (List.mem_of_getElem? (i := 9) rfl))) Via.refl e27 F1 (g := (mkF m 39 #[.val (.ref a), .val (.int q), .val (.int qd), .val (.double (FP.l2d (0 : Int64))), .second, .val (.int (q + (3 : Int32)))] [(.ref a), (.int (q + (3 : Int32)))])) rfl rfl (hb hby own_d_prog_104_method_3_code_39)
      obtain ⟨T37, X37, e37, st37⟩ := getF X36 hx hZ hown (host := "") (Or.inl (hw _ (List.mem_of_getElem? (i := 15) rfl))) Via.refl e36 F3 (g := (mkF m 8 #[.val (.ref a), .val (.int q), .val (.int qd), .val (.double (FP.l2d (0 : Int64))), .second, .val (.int ((q + (3 : Int32)) + (3 : Int32)))] [(.ref a), (.int ((q + (3 : Int32)) + (3 : Int32)))])) rfl rfl (hb hby own_d_prog_104_method_3_code_8)
      obtain ⟨cl38, Ar38, q38, S38, M38, H38, G38⟩ := id A2
      have pre39 : ∀ tt_, Steps p.tables e below (T37.setTop (mkF m 49 #[.val (.ref a), .val (.int q), .val (.int qd), .val (.double (FP.l2d (0 : Int64))), .second, .val (.int ((q + (3 : Int32)) + (3 : Int32)))] [(.double (FP.l2d (0 : Int64)))])) tt_ → Steps p.tables e below (s₁.setTop (entryFrame m #[(.ref a), (.int q), (.int qd)] 6)) tt_ := fun tt_ kk_ => pre29 tt_ (by
        show Steps p.tables e below (T27.setTop (mkF m 23 #[.val (.ref a), .val (.int q), .val (.int qd), .val (.double (FP.l2d (0 : Int64))), .second, .val (.int (q + (3 : Int32)))] [(.int qd), (.int v1)])) _
        refine XS.icmpYes X27.here hx rfl (pc0 := 23) (pc' := 36) rfl (hb hby own_d_prog_104_method_3_code_23) rfl (feq (c1 : ¬ (v1 = qd))).2 (by decide) (by decide) ?_
        show Steps p.tables e below (T27.setTop (mkF m 36 #[.val (.ref a), .val (.int q), .val (.int qd), .val (.double (FP.l2d (0 : Int64))), .second, .val (.int (q + (3 : Int32)))] [])) _
        refine XS.iload X27.here hx rfl (hb hby own_d_prog_104_method_3_code_36) rfl ?_
        show Steps p.tables e below (T27.setTop (mkF m 38 #[.val (.ref a), .val (.int q), .val (.int qd), .val (.double (FP.l2d (0 : Int64))), .second, .val (.int (q + (3 : Int32)))] [(.int (q + (3 : Int32)))])) _
        refine XS.aloadN X27.here hx rfl (hb hby own_d_prog_104_method_3_code_38) rfl rfl ?_
        show Steps p.tables e below (T27.setTop (mkF m 39 #[.val (.ref a), .val (.int q), .val (.int qd), .val (.double (FP.l2d (0 : Int64))), .second, .val (.int (q + (3 : Int32)))] [(.ref a), (.int (q + (3 : Int32)))])) _
        refine st36 _ ?_
        show Steps p.tables e below (T36.setTop (mkF m 42 #[.val (.ref a), .val (.int q), .val (.int qd), .val (.double (FP.l2d (0 : Int64))), .second, .val (.int (q + (3 : Int32)))] [(.int (3 : Int32)), (.int (q + (3 : Int32)))])) _
        refine XS.iadd X36.here hx rfl (hb hby own_d_prog_104_method_3_code_42) rfl ?_
        show Steps p.tables e below (T36.setTop (mkF m 43 #[.val (.ref a), .val (.int q), .val (.int qd), .val (.double (FP.l2d (0 : Int64))), .second, .val (.int (q + (3 : Int32)))] [(.int ((q + (3 : Int32)) + (3 : Int32)))])) _
        refine XS.istore X36.here hx rfl (hb hby own_d_prog_104_method_3_code_43) rfl (l' := #[.val (.ref a), .val (.int q), .val (.int qd), .val (.double (FP.l2d (0 : Int64))), .second, .val (.int ((q + (3 : Int32)) + (3 : Int32)))]) rfl ?_
        show Steps p.tables e below (T36.setTop (mkF m 45 #[.val (.ref a), .val (.int q), .val (.int qd), .val (.double (FP.l2d (0 : Int64))), .second, .val (.int ((q + (3 : Int32)) + (3 : Int32)))] [])) _
        refine XS.goto X36.here hx rfl (pc0 := 45) (pc' := 5) rfl (hb hby own_d_prog_104_method_3_code_45) (by decide) (by decide) ?_
        show Steps p.tables e below (T36.setTop (mkF m 5 #[.val (.ref a), .val (.int q), .val (.int qd), .val (.double (FP.l2d (0 : Int64))), .second, .val (.int ((q + (3 : Int32)) + (3 : Int32)))] [])) _
        refine XS.iload X36.here hx rfl (hb hby own_d_prog_104_method_3_code_5) rfl ?_
        show Steps p.tables e below (T36.setTop (mkF m 7 #[.val (.ref a), .val (.int q), .val (.int qd), .val (.double (FP.l2d (0 : Int64))), .second, .val (.int ((q + (3 : Int32)) + (3 : Int32)))] [(.int ((q + (3 : Int32)) + (3 : Int32)))])) _
        refine XS.aloadN X36.here hx rfl (hb hby own_d_prog_104_method_3_code_7) rfl rfl ?_
        show Steps p.tables e below (T36.setTop (mkF m 8 #[.val (.ref a), .val (.int q), .val (.int qd), .val (.double (FP.l2d (0 : Int64))), .second, .val (.int ((q + (3 : Int32)) + (3 : Int32)))] [(.ref a), (.int ((q + (3 : Int32)) + (3 : Int32)))])) _
        refine st37 _ ?_
        show Steps p.tables e below (T37.setTop (mkF m 11 #[.val (.ref a), .val (.int q), .val (.int qd), .val (.double (FP.l2d (0 : Int64))), .second, .val (.int ((q + (3 : Int32)) + (3 : Int32)))] [(.ref dc), (.int ((q + (3 : Int32)) + (3 : Int32)))])) _
        refine X37.arraylength hx (by rw [e37]; exact Ar38.1) (State.isArrayOf_alike hZ.alike Ar38.2.1) (g := (mkF m 11 #[.val (.ref a), .val (.int q), .val (.int qd), .val (.double (FP.l2d (0 : Int64))), .second, .val (.int ((q + (3 : Int32)) + (3 : Int32)))] [(.ref dc), (.int ((q + (3 : Int32)) + (3 : Int32)))])) rfl rfl (hb hby own_d_prog_104_method_3_code_11) _ ?_
        rw [len_of S38 M38]
        show Steps p.tables e below (T37.setTop (mkF m 12 #[.val (.ref a), .val (.int q), .val (.int qd), .val (.double (FP.l2d (0 : Int64))), .second, .val (.int ((q + (3 : Int32)) + (3 : Int32)))] [(.int (6 : Int32)), (.int ((q + (3 : Int32)) + (3 : Int32)))])) _
        refine XS.icmpYes X37.here hx rfl (pc0 := 12) (pc' := 48) rfl (hb hby own_d_prog_104_method_3_code_12) rfl (flt (jl : ¬ (((q + (3 : Int32)) + (3 : Int32)) < (6 : Int32)))).2.1 (by decide) (by decide) ?_
        show Steps p.tables e below (T37.setTop (mkF m 48 #[.val (.ref a), .val (.int q), .val (.int qd), .val (.double (FP.l2d (0 : Int64))), .second, .val (.int ((q + (3 : Int32)) + (3 : Int32)))] [])) _
        refine XS.dloadN X37.here hx rfl (hb hby own_d_prog_104_method_3_code_48) rfl ?_
        exact kk_)
      obtain ⟨fs, hr, hrun, hended, hW, hsame⟩ := X37.leave (v := some (.double (FP.l2d (0 : Int64)))) (fun h => by rw [Bd.returns] at h; cases h)
      refine ⟨_, _, pre39 _ ?_, hrun, hended, _, _, rfl, ?_, ⟨_, rfl⟩, hW, hsame.mono (by decide) (by decide)⟩
      · show Steps p.tables e below (T37.setTop (mkF m 49 #[.val (.ref a), .val (.int q), .val (.int qd), .val (.double (FP.l2d (0 : Int64))), .second, .val (.int ((q + (3 : Int32)) + (3 : Int32)))] [(.double (FP.l2d (0 : Int64)))])) _
        exact retOut X37 hx (t := .double) (i := .dreturn) Bd.returns rfl (Or.inr (Or.inr (Or.inl ⟨rfl, rfl, _, rfl⟩))) (hb hby own_d_prog_104_method_3_code_49) hr
      · show QP (.double (FP.l2d res)) h0 n0 _ T37.heap _
        rw [e37]
        exact ⟨by rw [← hres]; simp only [own_acc, if_neg c0, if_neg c1], N0, rfl⟩
theorem own_ef_rmC (m : MethodId) (y0 : Int32) (y1 : Int32) (y2 : Int32) (y3 : Int32) (y4 : Int32) (y5 : Int32) (y6 : Int32) (y7 : Int32) (y8 : Int32) (y9 : Int32) (y10 : Int32) : entryFrame m #[(.int y0), (.int y1), (.int y2), (.int y3), (.int y4), (.int y5), (.int y6), (.int y7), (.int y8), (.int y9), (.int y10)] 13 = mkF m 0 #[.val (.int y0), .val (.int y1), .val (.int y2), .val (.int y3), .val (.int y4), .val (.int y5), .val (.int y6), .val (.int y7), .val (.int y8), .val (.int y9), .val (.int y10), .unset, .unset] [] := by first | (simp [entryFrame, mkF, argsToLocals, Value.category]; done) | rfl
set_option maxRecDepth 65536 in
set_option maxHeartbeats 40000000 in
theorem rmC (l : Launch) (Z : State) (a0 : Array Value) (hw : ∀ d ∈ tables_1, d.before a0 Z = true) (ws : List Jvm.Cond) (t sq dq s1 t1 d1 v1 s2 t2 d2 v2 : Int32) (h0 : Heap) (n0 : Nat) (Z0 : n0 ≤ h0.size)  :
    MetFree l (⟨"com/example/cranfield/cranfield/search/TermScoresPutPinLaw", "contrib", "(IIIIIIIIIII)D"⟩ : MethodName) (head1 (Jvm.Cond.code (⟨"com/example/cranfield/cranfield/search/TermScoresPutPinLaw", "contrib", "(IIIIIIIIIII)D"⟩ : MethodName) method_2_code 13 (some .double) :: ws) ({ frames := 0, cells := 0, slots := 0, locals := 0 } : Room)) (fun ar_ U => ar_ = #[(.int t), (.int sq), (.int dq), (.int s1), (.int t1), (.int d1), (.int v1), (.int s2), (.int t2), (.int d2), (.int v2)] ∧ Z.Warmed39 U.vm ∧ U.heap = h0) (fun _ _ _ _ _ => True) (fun _ U o U' => ∃ v L, o = .returned v ∧ QP (.double (FP.l2d (own_c t sq dq s1 t1 d1 v1 s2 t2 d2 v2))) h0 n0 v U'.heap L ∧ FrameEnd U o U' L ({ frames := 0, cells := 0, slots := 0, locals := 0 } : Room).cells ({ frames := 0, cells := 0, slots := 0, locals := 0 } : Room).slots) := by
  refine MetFree.of_bodySF (plainFor_of_name own_pn1) hisR ?_
  intro p e s m args below meth c s₁ Bd hml0 hP hK
  obtain ⟨rfl, hZ, hh⟩ := hP
  have hx := Bd.exec
  have hby := Bd.bytes
  have hml : c.maxLocals = 13 := hml0
  have hown : s.vm.findClass "com/example/cranfield/cranfield/search/TermScoresPutPinLaw" = some m.cls := findClass_of_methodNamed Bd.named
  have hnm := (name_of_methodNamed Bd.named Bd.method).1
  have X0 : Stand p l e ({ frames := 0, cells := 0, slots := 0, locals := 0 } : Room) s m #[(.int t), (.int sq), (.int dq), (.int s1), (.int t1), (.int d1), (.int v1), (.int s2), (.int t2), (.int d2), (.int v2)] below meth c s₁ [] 0 0 := Stand.of_body Bd
  have e0 : s₁.heap = h0 := by rw [← hh, Bd.state]; rfl
  have N0 := Fr.nil n0
  have pre0 : ∀ tt_, Steps p.tables e below (s₁.setTop (mkF m 0 #[.val (.int t), .val (.int sq), .val (.int dq), .val (.int s1), .val (.int t1), .val (.int d1), .val (.int v1), .val (.int s2), .val (.int t2), .val (.int d2), .val (.int v2), .unset, .unset] [])) tt_ → Steps p.tables e below (s₁.setTop (entryFrame m #[(.int t), (.int sq), (.int dq), (.int s1), (.int t1), (.int d1), (.int v1), (.int s2), (.int t2), (.int d2), (.int v2)] 13)) tt_ := fun tt_ kk_ => castTop (own_ef_rmC m t sq dq s1 t1 d1 v1 s2 t2 d2 v2) kk_
  have pre1 : ∀ tt_, Steps p.tables e below (s₁.setTop (mkF m 3 #[.val (.int t), .val (.int sq), .val (.int dq), .val (.int s1), .val (.int t1), .val (.int d1), .val (.int v1), .val (.int s2), .val (.int t2), .val (.int d2), .val (.int v2), .unset, .unset] [(.int t), (.int t2)])) tt_ → Steps p.tables e below (s₁.setTop (entryFrame m #[(.int t), (.int sq), (.int dq), (.int s1), (.int t1), (.int d1), (.int v1), (.int s2), (.int t2), (.int d2), (.int v2)] 13)) tt_ := fun tt_ kk_ => pre0 tt_ (by
    show Steps p.tables e below (s₁.setTop (mkF m 0 #[.val (.int t), .val (.int sq), .val (.int dq), .val (.int s1), .val (.int t1), .val (.int d1), .val (.int v1), .val (.int s2), .val (.int t2), .val (.int d2), .val (.int v2), .unset, .unset] [])) _
    refine XS.iload X0.here hx rfl (hb hby own_d_method_2_code_0) rfl ?_
    show Steps p.tables e below (s₁.setTop (mkF m 2 #[.val (.int t), .val (.int sq), .val (.int dq), .val (.int s1), .val (.int t1), .val (.int d1), .val (.int v1), .val (.int s2), .val (.int t2), .val (.int d2), .val (.int v2), .unset, .unset] [(.int t2)])) _
    refine XS.iloadN X0.here hx rfl (hb hby own_d_method_2_code_2) rfl ?_
    exact kk_)
  by_cases f1 : t2 = t
  · have pre2 : ∀ tt_, Steps p.tables e below (s₁.setTop (mkF m 9 #[.val (.int t), .val (.int sq), .val (.int dq), .val (.int s1), .val (.int t1), .val (.int d1), .val (.int v1), .val (.int s2), .val (.int t2), .val (.int d2), .val (.int v2), .unset, .unset] [(.int sq), (.int s2)])) tt_ → Steps p.tables e below (s₁.setTop (entryFrame m #[(.int t), (.int sq), (.int dq), (.int s1), (.int t1), (.int d1), (.int v1), (.int s2), (.int t2), (.int d2), (.int v2)] 13)) tt_ := fun tt_ kk_ => pre1 tt_ (by
      show Steps p.tables e below (s₁.setTop (mkF m 3 #[.val (.int t), .val (.int sq), .val (.int dq), .val (.int s1), .val (.int t1), .val (.int d1), .val (.int v1), .val (.int s2), .val (.int t2), .val (.int d2), .val (.int v2), .unset, .unset] [(.int t), (.int t2)])) _
      refine XS.icmpNo X0.here hx rfl (hb hby own_d_method_2_code_3) rfl (teq (f1 : t2 = t)).2 ?_
      show Steps p.tables e below (s₁.setTop (mkF m 6 #[.val (.int t), .val (.int sq), .val (.int dq), .val (.int s1), .val (.int t1), .val (.int d1), .val (.int v1), .val (.int s2), .val (.int t2), .val (.int d2), .val (.int v2), .unset, .unset] [])) _
      refine XS.iload X0.here hx rfl (hb hby own_d_method_2_code_6) rfl ?_
      show Steps p.tables e below (s₁.setTop (mkF m 8 #[.val (.int t), .val (.int sq), .val (.int dq), .val (.int s1), .val (.int t1), .val (.int d1), .val (.int v1), .val (.int s2), .val (.int t2), .val (.int d2), .val (.int v2), .unset, .unset] [(.int s2)])) _
      refine XS.iloadN X0.here hx rfl (hb hby own_d_method_2_code_8) rfl ?_
      exact kk_)
    by_cases f2 : s2 = sq
    · have pre3 : ∀ tt_, Steps p.tables e below (s₁.setTop (mkF m 54 #[.val (.int t), .val (.int sq), .val (.int dq), .val (.int s1), .val (.int t1), .val (.int d1), .val (.int v1), .val (.int s2), .val (.int t2), .val (.int d2), .val (.int v2), .val (.int d2), .val (.int v2)] [(.int dq), (.int d2)])) tt_ → Steps p.tables e below (s₁.setTop (entryFrame m #[(.int t), (.int sq), (.int dq), (.int s1), (.int t1), (.int d1), (.int v1), (.int s2), (.int t2), (.int d2), (.int v2)] 13)) tt_ := fun tt_ kk_ => pre2 tt_ (by
        show Steps p.tables e below (s₁.setTop (mkF m 9 #[.val (.int t), .val (.int sq), .val (.int dq), .val (.int s1), .val (.int t1), .val (.int d1), .val (.int v1), .val (.int s2), .val (.int t2), .val (.int d2), .val (.int v2), .unset, .unset] [(.int sq), (.int s2)])) _
        refine XS.icmpNo X0.here hx rfl (hb hby own_d_method_2_code_9) rfl (teq (f2 : s2 = sq)).2 ?_
        show Steps p.tables e below (s₁.setTop (mkF m 12 #[.val (.int t), .val (.int sq), .val (.int dq), .val (.int s1), .val (.int t1), .val (.int d1), .val (.int v1), .val (.int s2), .val (.int t2), .val (.int d2), .val (.int v2), .unset, .unset] [])) _
        refine XS.iload X0.here hx rfl (hb hby own_d_method_2_code_12) rfl ?_
        show Steps p.tables e below (s₁.setTop (mkF m 14 #[.val (.int t), .val (.int sq), .val (.int dq), .val (.int s1), .val (.int t1), .val (.int d1), .val (.int v1), .val (.int s2), .val (.int t2), .val (.int d2), .val (.int v2), .unset, .unset] [(.int d2)])) _
        refine XS.istore X0.here hx rfl (hb hby own_d_method_2_code_14) rfl (l' := #[.val (.int t), .val (.int sq), .val (.int dq), .val (.int s1), .val (.int t1), .val (.int d1), .val (.int v1), .val (.int s2), .val (.int t2), .val (.int d2), .val (.int v2), .val (.int d2), .unset]) rfl ?_
        show Steps p.tables e below (s₁.setTop (mkF m 16 #[.val (.int t), .val (.int sq), .val (.int dq), .val (.int s1), .val (.int t1), .val (.int d1), .val (.int v1), .val (.int s2), .val (.int t2), .val (.int d2), .val (.int v2), .val (.int d2), .unset] [])) _
        refine XS.iload X0.here hx rfl (hb hby own_d_method_2_code_16) rfl ?_
        show Steps p.tables e below (s₁.setTop (mkF m 18 #[.val (.int t), .val (.int sq), .val (.int dq), .val (.int s1), .val (.int t1), .val (.int d1), .val (.int v1), .val (.int s2), .val (.int t2), .val (.int d2), .val (.int v2), .val (.int d2), .unset] [(.int v2)])) _
        refine XS.istore X0.here hx rfl (hb hby own_d_method_2_code_18) rfl (l' := #[.val (.int t), .val (.int sq), .val (.int dq), .val (.int s1), .val (.int t1), .val (.int d1), .val (.int v1), .val (.int s2), .val (.int t2), .val (.int d2), .val (.int v2), .val (.int d2), .val (.int v2)]) rfl ?_
        show Steps p.tables e below (s₁.setTop (mkF m 20 #[.val (.int t), .val (.int sq), .val (.int dq), .val (.int s1), .val (.int t1), .val (.int d1), .val (.int v1), .val (.int s2), .val (.int t2), .val (.int d2), .val (.int v2), .val (.int d2), .val (.int v2)] [])) _
        refine XS.goto X0.here hx rfl (pc0 := 20) (pc' := 51) rfl (hb hby own_d_method_2_code_20) (by decide) (by decide) ?_
        show Steps p.tables e below (s₁.setTop (mkF m 51 #[.val (.int t), .val (.int sq), .val (.int dq), .val (.int s1), .val (.int t1), .val (.int d1), .val (.int v1), .val (.int s2), .val (.int t2), .val (.int d2), .val (.int v2), .val (.int d2), .val (.int v2)] [])) _
        refine XS.iload X0.here hx rfl (hb hby own_d_method_2_code_51) rfl ?_
        show Steps p.tables e below (s₁.setTop (mkF m 53 #[.val (.int t), .val (.int sq), .val (.int dq), .val (.int s1), .val (.int t1), .val (.int d1), .val (.int v1), .val (.int s2), .val (.int t2), .val (.int d2), .val (.int v2), .val (.int d2), .val (.int v2)] [(.int d2)])) _
        refine XS.iloadN X0.here hx rfl (hb hby own_d_method_2_code_53) rfl ?_
        exact kk_)
      by_cases cd : d2 = dq
      · have pre4 : ∀ tt_, Steps p.tables e below (s₁.setTop (mkF m 60 #[.val (.int t), .val (.int sq), .val (.int dq), .val (.int s1), .val (.int t1), .val (.int d1), .val (.int v1), .val (.int s2), .val (.int t2), .val (.int d2), .val (.int v2), .val (.int d2), .val (.int v2)] [(.double (FP.l2d (v2.toInt64)))])) tt_ → Steps p.tables e below (s₁.setTop (entryFrame m #[(.int t), (.int sq), (.int dq), (.int s1), (.int t1), (.int d1), (.int v1), (.int s2), (.int t2), (.int d2), (.int v2)] 13)) tt_ := fun tt_ kk_ => pre3 tt_ (by
          show Steps p.tables e below (s₁.setTop (mkF m 54 #[.val (.int t), .val (.int sq), .val (.int dq), .val (.int s1), .val (.int t1), .val (.int d1), .val (.int v1), .val (.int s2), .val (.int t2), .val (.int d2), .val (.int v2), .val (.int d2), .val (.int v2)] [(.int dq), (.int d2)])) _
          refine XS.icmpNo X0.here hx rfl (hb hby own_d_method_2_code_54) rfl (teq (cd : d2 = dq)).2 ?_
          show Steps p.tables e below (s₁.setTop (mkF m 57 #[.val (.int t), .val (.int sq), .val (.int dq), .val (.int s1), .val (.int t1), .val (.int d1), .val (.int v1), .val (.int s2), .val (.int t2), .val (.int d2), .val (.int v2), .val (.int d2), .val (.int v2)] [])) _
          refine XS.iload X0.here hx rfl (hb hby own_d_method_2_code_57) rfl ?_
          show Steps p.tables e below (s₁.setTop (mkF m 59 #[.val (.int t), .val (.int sq), .val (.int dq), .val (.int s1), .val (.int t1), .val (.int d1), .val (.int v1), .val (.int s2), .val (.int t2), .val (.int d2), .val (.int v2), .val (.int d2), .val (.int v2)] [(.int v2)])) _
          refine XS.i2dS X0.here hx rfl (hb hby own_d_method_2_code_59) rfl (i2d_w _) ?_
          exact kk_)
        obtain ⟨fs, hr, hrun, hended, hW, hsame⟩ := X0.leave (v := some (.double (FP.l2d (v2.toInt64)))) (fun h => by rw [Bd.returns] at h; cases h)
        refine ⟨_, _, pre4 _ ?_, hrun, hended, _, _, rfl, ?_, ⟨_, rfl⟩, hW, hsame.mono (by decide) (by decide)⟩
        · show Steps p.tables e below (s₁.setTop (mkF m 60 #[.val (.int t), .val (.int sq), .val (.int dq), .val (.int s1), .val (.int t1), .val (.int d1), .val (.int v1), .val (.int s2), .val (.int t2), .val (.int d2), .val (.int v2), .val (.int d2), .val (.int v2)] [(.double (FP.l2d (v2.toInt64)))])) _
          exact retOut X0 hx (t := .double) (i := .dreturn) Bd.returns rfl (Or.inr (Or.inr (Or.inl ⟨rfl, rfl, _, rfl⟩))) (hb hby own_d_method_2_code_60) hr
        · show QP (.double (FP.l2d (own_c t sq dq s1 t1 d1 v1 s2 t2 d2 v2))) h0 n0 _ s₁.heap _
          rw [e0]
          exact ⟨by rw [own_c, if_pos f1, if_pos f2, own_f, if_pos cd], N0, rfl⟩
      · have pre5 : ∀ tt_, Steps p.tables e below (s₁.setTop (mkF m 62 #[.val (.int t), .val (.int sq), .val (.int dq), .val (.int s1), .val (.int t1), .val (.int d1), .val (.int v1), .val (.int s2), .val (.int t2), .val (.int d2), .val (.int v2), .val (.int d2), .val (.int v2)] [(.double (FP.l2d (0 : Int64)))])) tt_ → Steps p.tables e below (s₁.setTop (entryFrame m #[(.int t), (.int sq), (.int dq), (.int s1), (.int t1), (.int d1), (.int v1), (.int s2), (.int t2), (.int d2), (.int v2)] 13)) tt_ := fun tt_ kk_ => pre3 tt_ (by
          show Steps p.tables e below (s₁.setTop (mkF m 54 #[.val (.int t), .val (.int sq), .val (.int dq), .val (.int s1), .val (.int t1), .val (.int d1), .val (.int v1), .val (.int s2), .val (.int t2), .val (.int d2), .val (.int v2), .val (.int d2), .val (.int v2)] [(.int dq), (.int d2)])) _
          refine XS.icmpYes X0.here hx rfl (pc0 := 54) (pc' := 61) rfl (hb hby own_d_method_2_code_54) rfl (feq (cd : ¬ (d2 = dq))).2 (by decide) (by decide) ?_
          show Steps p.tables e below (s₁.setTop (mkF m 61 #[.val (.int t), .val (.int sq), .val (.int dq), .val (.int s1), .val (.int t1), .val (.int d1), .val (.int v1), .val (.int s2), .val (.int t2), .val (.int d2), .val (.int v2), .val (.int d2), .val (.int v2)] [])) _
          refine XS.dconst0 X0.here hx rfl (hb hby own_d_method_2_code_61) own_dc0 ?_
          exact kk_)
        obtain ⟨fs, hr, hrun, hended, hW, hsame⟩ := X0.leave (v := some (.double (FP.l2d (0 : Int64)))) (fun h => by rw [Bd.returns] at h; cases h)
        refine ⟨_, _, pre5 _ ?_, hrun, hended, _, _, rfl, ?_, ⟨_, rfl⟩, hW, hsame.mono (by decide) (by decide)⟩
        · show Steps p.tables e below (s₁.setTop (mkF m 62 #[.val (.int t), .val (.int sq), .val (.int dq), .val (.int s1), .val (.int t1), .val (.int d1), .val (.int v1), .val (.int s2), .val (.int t2), .val (.int d2), .val (.int v2), .val (.int d2), .val (.int v2)] [(.double (FP.l2d (0 : Int64)))])) _
          exact retOut X0 hx (t := .double) (i := .dreturn) Bd.returns rfl (Or.inr (Or.inr (Or.inl ⟨rfl, rfl, _, rfl⟩))) (hb hby own_d_method_2_code_62) hr
        · show QP (.double (FP.l2d (own_c t sq dq s1 t1 d1 v1 s2 t2 d2 v2))) h0 n0 _ s₁.heap _
          rw [e0]
          exact ⟨by rw [own_c, if_pos f1, if_pos f2, own_f, if_neg cd], N0, rfl⟩
    · have pre6 : ∀ tt_, Steps p.tables e below (s₁.setTop (mkF m 26 #[.val (.int t), .val (.int sq), .val (.int dq), .val (.int s1), .val (.int t1), .val (.int d1), .val (.int v1), .val (.int s2), .val (.int t2), .val (.int d2), .val (.int v2), .unset, .unset] [(.int t), (.int t1)])) tt_ → Steps p.tables e below (s₁.setTop (entryFrame m #[(.int t), (.int sq), (.int dq), (.int s1), (.int t1), (.int d1), (.int v1), (.int s2), (.int t2), (.int d2), (.int v2)] 13)) tt_ := fun tt_ kk_ => pre2 tt_ (by
        show Steps p.tables e below (s₁.setTop (mkF m 9 #[.val (.int t), .val (.int sq), .val (.int dq), .val (.int s1), .val (.int t1), .val (.int d1), .val (.int v1), .val (.int s2), .val (.int t2), .val (.int d2), .val (.int v2), .unset, .unset] [(.int sq), (.int s2)])) _
        refine XS.icmpYes X0.here hx rfl (pc0 := 9) (pc' := 23) rfl (hb hby own_d_method_2_code_9) rfl (feq (f2 : ¬ (s2 = sq))).2 (by decide) (by decide) ?_
        show Steps p.tables e below (s₁.setTop (mkF m 23 #[.val (.int t), .val (.int sq), .val (.int dq), .val (.int s1), .val (.int t1), .val (.int d1), .val (.int v1), .val (.int s2), .val (.int t2), .val (.int d2), .val (.int v2), .unset, .unset] [])) _
        refine XS.iload X0.here hx rfl (hb hby own_d_method_2_code_23) rfl ?_
        show Steps p.tables e below (s₁.setTop (mkF m 25 #[.val (.int t), .val (.int sq), .val (.int dq), .val (.int s1), .val (.int t1), .val (.int d1), .val (.int v1), .val (.int s2), .val (.int t2), .val (.int d2), .val (.int v2), .unset, .unset] [(.int t1)])) _
        refine XS.iloadN X0.here hx rfl (hb hby own_d_method_2_code_25) rfl ?_
        exact kk_)
      by_cases e1 : t1 = t
      · have pre7 : ∀ tt_, Steps p.tables e below (s₁.setTop (mkF m 31 #[.val (.int t), .val (.int sq), .val (.int dq), .val (.int s1), .val (.int t1), .val (.int d1), .val (.int v1), .val (.int s2), .val (.int t2), .val (.int d2), .val (.int v2), .unset, .unset] [(.int sq), (.int s1)])) tt_ → Steps p.tables e below (s₁.setTop (entryFrame m #[(.int t), (.int sq), (.int dq), (.int s1), (.int t1), (.int d1), (.int v1), (.int s2), (.int t2), (.int d2), (.int v2)] 13)) tt_ := fun tt_ kk_ => pre6 tt_ (by
          show Steps p.tables e below (s₁.setTop (mkF m 26 #[.val (.int t), .val (.int sq), .val (.int dq), .val (.int s1), .val (.int t1), .val (.int d1), .val (.int v1), .val (.int s2), .val (.int t2), .val (.int d2), .val (.int v2), .unset, .unset] [(.int t), (.int t1)])) _
          refine XS.icmpNo X0.here hx rfl (hb hby own_d_method_2_code_26) rfl (teq (e1 : t1 = t)).2 ?_
          show Steps p.tables e below (s₁.setTop (mkF m 29 #[.val (.int t), .val (.int sq), .val (.int dq), .val (.int s1), .val (.int t1), .val (.int d1), .val (.int v1), .val (.int s2), .val (.int t2), .val (.int d2), .val (.int v2), .unset, .unset] [])) _
          refine XS.iloadN X0.here hx rfl (hb hby own_d_method_2_code_29) rfl ?_
          show Steps p.tables e below (s₁.setTop (mkF m 30 #[.val (.int t), .val (.int sq), .val (.int dq), .val (.int s1), .val (.int t1), .val (.int d1), .val (.int v1), .val (.int s2), .val (.int t2), .val (.int d2), .val (.int v2), .unset, .unset] [(.int s1)])) _
          refine XS.iloadN X0.here hx rfl (hb hby own_d_method_2_code_30) rfl ?_
          exact kk_)
        by_cases e2 : s1 = sq
        · have pre8 : ∀ tt_, Steps p.tables e below (s₁.setTop (mkF m 54 #[.val (.int t), .val (.int sq), .val (.int dq), .val (.int s1), .val (.int t1), .val (.int d1), .val (.int v1), .val (.int s2), .val (.int t2), .val (.int d2), .val (.int v2), .val (.int d1), .val (.int v1)] [(.int dq), (.int d1)])) tt_ → Steps p.tables e below (s₁.setTop (entryFrame m #[(.int t), (.int sq), (.int dq), (.int s1), (.int t1), (.int d1), (.int v1), (.int s2), (.int t2), (.int d2), (.int v2)] 13)) tt_ := fun tt_ kk_ => pre7 tt_ (by
            show Steps p.tables e below (s₁.setTop (mkF m 31 #[.val (.int t), .val (.int sq), .val (.int dq), .val (.int s1), .val (.int t1), .val (.int d1), .val (.int v1), .val (.int s2), .val (.int t2), .val (.int d2), .val (.int v2), .unset, .unset] [(.int sq), (.int s1)])) _
            refine XS.icmpNo X0.here hx rfl (hb hby own_d_method_2_code_31) rfl (teq (e2 : s1 = sq)).2 ?_
            show Steps p.tables e below (s₁.setTop (mkF m 34 #[.val (.int t), .val (.int sq), .val (.int dq), .val (.int s1), .val (.int t1), .val (.int d1), .val (.int v1), .val (.int s2), .val (.int t2), .val (.int d2), .val (.int v2), .unset, .unset] [])) _
            refine XS.iload X0.here hx rfl (hb hby own_d_method_2_code_34) rfl ?_
            show Steps p.tables e below (s₁.setTop (mkF m 36 #[.val (.int t), .val (.int sq), .val (.int dq), .val (.int s1), .val (.int t1), .val (.int d1), .val (.int v1), .val (.int s2), .val (.int t2), .val (.int d2), .val (.int v2), .unset, .unset] [(.int d1)])) _
            refine XS.istore X0.here hx rfl (hb hby own_d_method_2_code_36) rfl (l' := #[.val (.int t), .val (.int sq), .val (.int dq), .val (.int s1), .val (.int t1), .val (.int d1), .val (.int v1), .val (.int s2), .val (.int t2), .val (.int d2), .val (.int v2), .val (.int d1), .unset]) rfl ?_
            show Steps p.tables e below (s₁.setTop (mkF m 38 #[.val (.int t), .val (.int sq), .val (.int dq), .val (.int s1), .val (.int t1), .val (.int d1), .val (.int v1), .val (.int s2), .val (.int t2), .val (.int d2), .val (.int v2), .val (.int d1), .unset] [])) _
            refine XS.iload X0.here hx rfl (hb hby own_d_method_2_code_38) rfl ?_
            show Steps p.tables e below (s₁.setTop (mkF m 40 #[.val (.int t), .val (.int sq), .val (.int dq), .val (.int s1), .val (.int t1), .val (.int d1), .val (.int v1), .val (.int s2), .val (.int t2), .val (.int d2), .val (.int v2), .val (.int d1), .unset] [(.int v1)])) _
            refine XS.istore X0.here hx rfl (hb hby own_d_method_2_code_40) rfl (l' := #[.val (.int t), .val (.int sq), .val (.int dq), .val (.int s1), .val (.int t1), .val (.int d1), .val (.int v1), .val (.int s2), .val (.int t2), .val (.int d2), .val (.int v2), .val (.int d1), .val (.int v1)]) rfl ?_
            show Steps p.tables e below (s₁.setTop (mkF m 42 #[.val (.int t), .val (.int sq), .val (.int dq), .val (.int s1), .val (.int t1), .val (.int d1), .val (.int v1), .val (.int s2), .val (.int t2), .val (.int d2), .val (.int v2), .val (.int d1), .val (.int v1)] [])) _
            refine XS.goto X0.here hx rfl (pc0 := 42) (pc' := 51) rfl (hb hby own_d_method_2_code_42) (by decide) (by decide) ?_
            show Steps p.tables e below (s₁.setTop (mkF m 51 #[.val (.int t), .val (.int sq), .val (.int dq), .val (.int s1), .val (.int t1), .val (.int d1), .val (.int v1), .val (.int s2), .val (.int t2), .val (.int d2), .val (.int v2), .val (.int d1), .val (.int v1)] [])) _
            refine XS.iload X0.here hx rfl (hb hby own_d_method_2_code_51) rfl ?_
            show Steps p.tables e below (s₁.setTop (mkF m 53 #[.val (.int t), .val (.int sq), .val (.int dq), .val (.int s1), .val (.int t1), .val (.int d1), .val (.int v1), .val (.int s2), .val (.int t2), .val (.int d2), .val (.int v2), .val (.int d1), .val (.int v1)] [(.int d1)])) _
            refine XS.iloadN X0.here hx rfl (hb hby own_d_method_2_code_53) rfl ?_
            exact kk_)
          by_cases cd : d1 = dq
          · have pre9 : ∀ tt_, Steps p.tables e below (s₁.setTop (mkF m 60 #[.val (.int t), .val (.int sq), .val (.int dq), .val (.int s1), .val (.int t1), .val (.int d1), .val (.int v1), .val (.int s2), .val (.int t2), .val (.int d2), .val (.int v2), .val (.int d1), .val (.int v1)] [(.double (FP.l2d (v1.toInt64)))])) tt_ → Steps p.tables e below (s₁.setTop (entryFrame m #[(.int t), (.int sq), (.int dq), (.int s1), (.int t1), (.int d1), (.int v1), (.int s2), (.int t2), (.int d2), (.int v2)] 13)) tt_ := fun tt_ kk_ => pre8 tt_ (by
              show Steps p.tables e below (s₁.setTop (mkF m 54 #[.val (.int t), .val (.int sq), .val (.int dq), .val (.int s1), .val (.int t1), .val (.int d1), .val (.int v1), .val (.int s2), .val (.int t2), .val (.int d2), .val (.int v2), .val (.int d1), .val (.int v1)] [(.int dq), (.int d1)])) _
              refine XS.icmpNo X0.here hx rfl (hb hby own_d_method_2_code_54) rfl (teq (cd : d1 = dq)).2 ?_
              show Steps p.tables e below (s₁.setTop (mkF m 57 #[.val (.int t), .val (.int sq), .val (.int dq), .val (.int s1), .val (.int t1), .val (.int d1), .val (.int v1), .val (.int s2), .val (.int t2), .val (.int d2), .val (.int v2), .val (.int d1), .val (.int v1)] [])) _
              refine XS.iload X0.here hx rfl (hb hby own_d_method_2_code_57) rfl ?_
              show Steps p.tables e below (s₁.setTop (mkF m 59 #[.val (.int t), .val (.int sq), .val (.int dq), .val (.int s1), .val (.int t1), .val (.int d1), .val (.int v1), .val (.int s2), .val (.int t2), .val (.int d2), .val (.int v2), .val (.int d1), .val (.int v1)] [(.int v1)])) _
              refine XS.i2dS X0.here hx rfl (hb hby own_d_method_2_code_59) rfl (i2d_w _) ?_
              exact kk_)
            obtain ⟨fs, hr, hrun, hended, hW, hsame⟩ := X0.leave (v := some (.double (FP.l2d (v1.toInt64)))) (fun h => by rw [Bd.returns] at h; cases h)
            refine ⟨_, _, pre9 _ ?_, hrun, hended, _, _, rfl, ?_, ⟨_, rfl⟩, hW, hsame.mono (by decide) (by decide)⟩
            · show Steps p.tables e below (s₁.setTop (mkF m 60 #[.val (.int t), .val (.int sq), .val (.int dq), .val (.int s1), .val (.int t1), .val (.int d1), .val (.int v1), .val (.int s2), .val (.int t2), .val (.int d2), .val (.int v2), .val (.int d1), .val (.int v1)] [(.double (FP.l2d (v1.toInt64)))])) _
              exact retOut X0 hx (t := .double) (i := .dreturn) Bd.returns rfl (Or.inr (Or.inr (Or.inl ⟨rfl, rfl, _, rfl⟩))) (hb hby own_d_method_2_code_60) hr
            · show QP (.double (FP.l2d (own_c t sq dq s1 t1 d1 v1 s2 t2 d2 v2))) h0 n0 _ s₁.heap _
              rw [e0]
              exact ⟨by rw [own_c, if_pos f1, if_neg f2, own_c1, if_pos e1, if_pos e2, own_f, if_pos cd], N0, rfl⟩
          · have pre10 : ∀ tt_, Steps p.tables e below (s₁.setTop (mkF m 62 #[.val (.int t), .val (.int sq), .val (.int dq), .val (.int s1), .val (.int t1), .val (.int d1), .val (.int v1), .val (.int s2), .val (.int t2), .val (.int d2), .val (.int v2), .val (.int d1), .val (.int v1)] [(.double (FP.l2d (0 : Int64)))])) tt_ → Steps p.tables e below (s₁.setTop (entryFrame m #[(.int t), (.int sq), (.int dq), (.int s1), (.int t1), (.int d1), (.int v1), (.int s2), (.int t2), (.int d2), (.int v2)] 13)) tt_ := fun tt_ kk_ => pre8 tt_ (by
              show Steps p.tables e below (s₁.setTop (mkF m 54 #[.val (.int t), .val (.int sq), .val (.int dq), .val (.int s1), .val (.int t1), .val (.int d1), .val (.int v1), .val (.int s2), .val (.int t2), .val (.int d2), .val (.int v2), .val (.int d1), .val (.int v1)] [(.int dq), (.int d1)])) _
              refine XS.icmpYes X0.here hx rfl (pc0 := 54) (pc' := 61) rfl (hb hby own_d_method_2_code_54) rfl (feq (cd : ¬ (d1 = dq))).2 (by decide) (by decide) ?_
              show Steps p.tables e below (s₁.setTop (mkF m 61 #[.val (.int t), .val (.int sq), .val (.int dq), .val (.int s1), .val (.int t1), .val (.int d1), .val (.int v1), .val (.int s2), .val (.int t2), .val (.int d2), .val (.int v2), .val (.int d1), .val (.int v1)] [])) _
              refine XS.dconst0 X0.here hx rfl (hb hby own_d_method_2_code_61) own_dc0 ?_
              exact kk_)
            obtain ⟨fs, hr, hrun, hended, hW, hsame⟩ := X0.leave (v := some (.double (FP.l2d (0 : Int64)))) (fun h => by rw [Bd.returns] at h; cases h)
            refine ⟨_, _, pre10 _ ?_, hrun, hended, _, _, rfl, ?_, ⟨_, rfl⟩, hW, hsame.mono (by decide) (by decide)⟩
            · show Steps p.tables e below (s₁.setTop (mkF m 62 #[.val (.int t), .val (.int sq), .val (.int dq), .val (.int s1), .val (.int t1), .val (.int d1), .val (.int v1), .val (.int s2), .val (.int t2), .val (.int d2), .val (.int v2), .val (.int d1), .val (.int v1)] [(.double (FP.l2d (0 : Int64)))])) _
              exact retOut X0 hx (t := .double) (i := .dreturn) Bd.returns rfl (Or.inr (Or.inr (Or.inl ⟨rfl, rfl, _, rfl⟩))) (hb hby own_d_method_2_code_62) hr
            · show QP (.double (FP.l2d (own_c t sq dq s1 t1 d1 v1 s2 t2 d2 v2))) h0 n0 _ s₁.heap _
              rw [e0]
              exact ⟨by rw [own_c, if_pos f1, if_neg f2, own_c1, if_pos e1, if_pos e2, own_f, if_neg cd], N0, rfl⟩
        · have pre11 : ∀ tt_, Steps p.tables e below (s₁.setTop (mkF m 54 #[.val (.int t), .val (.int sq), .val (.int dq), .val (.int s1), .val (.int t1), .val (.int d1), .val (.int v1), .val (.int s2), .val (.int t2), .val (.int d2), .val (.int v2), .val (.int (0 : Int32)), .val (.int (0 : Int32))] [(.int dq), (.int (0 : Int32))])) tt_ → Steps p.tables e below (s₁.setTop (entryFrame m #[(.int t), (.int sq), (.int dq), (.int s1), (.int t1), (.int d1), (.int v1), (.int s2), (.int t2), (.int d2), (.int v2)] 13)) tt_ := fun tt_ kk_ => pre7 tt_ (by
            show Steps p.tables e below (s₁.setTop (mkF m 31 #[.val (.int t), .val (.int sq), .val (.int dq), .val (.int s1), .val (.int t1), .val (.int d1), .val (.int v1), .val (.int s2), .val (.int t2), .val (.int d2), .val (.int v2), .unset, .unset] [(.int sq), (.int s1)])) _
            refine XS.icmpYes X0.here hx rfl (pc0 := 31) (pc' := 45) rfl (hb hby own_d_method_2_code_31) rfl (feq (e2 : ¬ (s1 = sq))).2 (by decide) (by decide) ?_
            show Steps p.tables e below (s₁.setTop (mkF m 45 #[.val (.int t), .val (.int sq), .val (.int dq), .val (.int s1), .val (.int t1), .val (.int d1), .val (.int v1), .val (.int s2), .val (.int t2), .val (.int d2), .val (.int v2), .unset, .unset] [])) _
            refine XS.iconst X0.here hx rfl (hb hby own_d_method_2_code_45) ?_
            show Steps p.tables e below (s₁.setTop (mkF m 46 #[.val (.int t), .val (.int sq), .val (.int dq), .val (.int s1), .val (.int t1), .val (.int d1), .val (.int v1), .val (.int s2), .val (.int t2), .val (.int d2), .val (.int v2), .unset, .unset] [(.int (0 : Int32))])) _
            refine XS.istore X0.here hx rfl (hb hby own_d_method_2_code_46) rfl (l' := #[.val (.int t), .val (.int sq), .val (.int dq), .val (.int s1), .val (.int t1), .val (.int d1), .val (.int v1), .val (.int s2), .val (.int t2), .val (.int d2), .val (.int v2), .val (.int (0 : Int32)), .unset]) rfl ?_
            show Steps p.tables e below (s₁.setTop (mkF m 48 #[.val (.int t), .val (.int sq), .val (.int dq), .val (.int s1), .val (.int t1), .val (.int d1), .val (.int v1), .val (.int s2), .val (.int t2), .val (.int d2), .val (.int v2), .val (.int (0 : Int32)), .unset] [])) _
            refine XS.iconst X0.here hx rfl (hb hby own_d_method_2_code_48) ?_
            show Steps p.tables e below (s₁.setTop (mkF m 49 #[.val (.int t), .val (.int sq), .val (.int dq), .val (.int s1), .val (.int t1), .val (.int d1), .val (.int v1), .val (.int s2), .val (.int t2), .val (.int d2), .val (.int v2), .val (.int (0 : Int32)), .unset] [(.int (0 : Int32))])) _
            refine XS.istore X0.here hx rfl (hb hby own_d_method_2_code_49) rfl (l' := #[.val (.int t), .val (.int sq), .val (.int dq), .val (.int s1), .val (.int t1), .val (.int d1), .val (.int v1), .val (.int s2), .val (.int t2), .val (.int d2), .val (.int v2), .val (.int (0 : Int32)), .val (.int (0 : Int32))]) rfl ?_
            show Steps p.tables e below (s₁.setTop (mkF m 51 #[.val (.int t), .val (.int sq), .val (.int dq), .val (.int s1), .val (.int t1), .val (.int d1), .val (.int v1), .val (.int s2), .val (.int t2), .val (.int d2), .val (.int v2), .val (.int (0 : Int32)), .val (.int (0 : Int32))] [])) _
            refine XS.iload X0.here hx rfl (hb hby own_d_method_2_code_51) rfl ?_
            show Steps p.tables e below (s₁.setTop (mkF m 53 #[.val (.int t), .val (.int sq), .val (.int dq), .val (.int s1), .val (.int t1), .val (.int d1), .val (.int v1), .val (.int s2), .val (.int t2), .val (.int d2), .val (.int v2), .val (.int (0 : Int32)), .val (.int (0 : Int32))] [(.int (0 : Int32))])) _
            refine XS.iloadN X0.here hx rfl (hb hby own_d_method_2_code_53) rfl ?_
            exact kk_)
          by_cases cd : (0 : Int32) = dq
          · have pre12 : ∀ tt_, Steps p.tables e below (s₁.setTop (mkF m 60 #[.val (.int t), .val (.int sq), .val (.int dq), .val (.int s1), .val (.int t1), .val (.int d1), .val (.int v1), .val (.int s2), .val (.int t2), .val (.int d2), .val (.int v2), .val (.int (0 : Int32)), .val (.int (0 : Int32))] [(.double (FP.l2d ((0 : Int32).toInt64)))])) tt_ → Steps p.tables e below (s₁.setTop (entryFrame m #[(.int t), (.int sq), (.int dq), (.int s1), (.int t1), (.int d1), (.int v1), (.int s2), (.int t2), (.int d2), (.int v2)] 13)) tt_ := fun tt_ kk_ => pre11 tt_ (by
              show Steps p.tables e below (s₁.setTop (mkF m 54 #[.val (.int t), .val (.int sq), .val (.int dq), .val (.int s1), .val (.int t1), .val (.int d1), .val (.int v1), .val (.int s2), .val (.int t2), .val (.int d2), .val (.int v2), .val (.int (0 : Int32)), .val (.int (0 : Int32))] [(.int dq), (.int (0 : Int32))])) _
              refine XS.icmpNo X0.here hx rfl (hb hby own_d_method_2_code_54) rfl (teq (cd : (0 : Int32) = dq)).2 ?_
              show Steps p.tables e below (s₁.setTop (mkF m 57 #[.val (.int t), .val (.int sq), .val (.int dq), .val (.int s1), .val (.int t1), .val (.int d1), .val (.int v1), .val (.int s2), .val (.int t2), .val (.int d2), .val (.int v2), .val (.int (0 : Int32)), .val (.int (0 : Int32))] [])) _
              refine XS.iload X0.here hx rfl (hb hby own_d_method_2_code_57) rfl ?_
              show Steps p.tables e below (s₁.setTop (mkF m 59 #[.val (.int t), .val (.int sq), .val (.int dq), .val (.int s1), .val (.int t1), .val (.int d1), .val (.int v1), .val (.int s2), .val (.int t2), .val (.int d2), .val (.int v2), .val (.int (0 : Int32)), .val (.int (0 : Int32))] [(.int (0 : Int32))])) _
              refine XS.i2dS X0.here hx rfl (hb hby own_d_method_2_code_59) rfl (i2d_w _) ?_
              exact kk_)
            obtain ⟨fs, hr, hrun, hended, hW, hsame⟩ := X0.leave (v := some (.double (FP.l2d ((0 : Int32).toInt64)))) (fun h => by rw [Bd.returns] at h; cases h)
            refine ⟨_, _, pre12 _ ?_, hrun, hended, _, _, rfl, ?_, ⟨_, rfl⟩, hW, hsame.mono (by decide) (by decide)⟩
            · show Steps p.tables e below (s₁.setTop (mkF m 60 #[.val (.int t), .val (.int sq), .val (.int dq), .val (.int s1), .val (.int t1), .val (.int d1), .val (.int v1), .val (.int s2), .val (.int t2), .val (.int d2), .val (.int v2), .val (.int (0 : Int32)), .val (.int (0 : Int32))] [(.double (FP.l2d ((0 : Int32).toInt64)))])) _
              exact retOut X0 hx (t := .double) (i := .dreturn) Bd.returns rfl (Or.inr (Or.inr (Or.inl ⟨rfl, rfl, _, rfl⟩))) (hb hby own_d_method_2_code_60) hr
            · show QP (.double (FP.l2d (own_c t sq dq s1 t1 d1 v1 s2 t2 d2 v2))) h0 n0 _ s₁.heap _
              rw [e0]
              exact ⟨by rw [own_c, if_pos f1, if_neg f2, own_c1, if_pos e1, if_neg e2, own_f, if_pos cd], N0, rfl⟩
          · have pre13 : ∀ tt_, Steps p.tables e below (s₁.setTop (mkF m 62 #[.val (.int t), .val (.int sq), .val (.int dq), .val (.int s1), .val (.int t1), .val (.int d1), .val (.int v1), .val (.int s2), .val (.int t2), .val (.int d2), .val (.int v2), .val (.int (0 : Int32)), .val (.int (0 : Int32))] [(.double (FP.l2d (0 : Int64)))])) tt_ → Steps p.tables e below (s₁.setTop (entryFrame m #[(.int t), (.int sq), (.int dq), (.int s1), (.int t1), (.int d1), (.int v1), (.int s2), (.int t2), (.int d2), (.int v2)] 13)) tt_ := fun tt_ kk_ => pre11 tt_ (by
              show Steps p.tables e below (s₁.setTop (mkF m 54 #[.val (.int t), .val (.int sq), .val (.int dq), .val (.int s1), .val (.int t1), .val (.int d1), .val (.int v1), .val (.int s2), .val (.int t2), .val (.int d2), .val (.int v2), .val (.int (0 : Int32)), .val (.int (0 : Int32))] [(.int dq), (.int (0 : Int32))])) _
              refine XS.icmpYes X0.here hx rfl (pc0 := 54) (pc' := 61) rfl (hb hby own_d_method_2_code_54) rfl (feq (cd : ¬ ((0 : Int32) = dq))).2 (by decide) (by decide) ?_
              show Steps p.tables e below (s₁.setTop (mkF m 61 #[.val (.int t), .val (.int sq), .val (.int dq), .val (.int s1), .val (.int t1), .val (.int d1), .val (.int v1), .val (.int s2), .val (.int t2), .val (.int d2), .val (.int v2), .val (.int (0 : Int32)), .val (.int (0 : Int32))] [])) _
              refine XS.dconst0 X0.here hx rfl (hb hby own_d_method_2_code_61) own_dc0 ?_
              exact kk_)
            obtain ⟨fs, hr, hrun, hended, hW, hsame⟩ := X0.leave (v := some (.double (FP.l2d (0 : Int64)))) (fun h => by rw [Bd.returns] at h; cases h)
            refine ⟨_, _, pre13 _ ?_, hrun, hended, _, _, rfl, ?_, ⟨_, rfl⟩, hW, hsame.mono (by decide) (by decide)⟩
            · show Steps p.tables e below (s₁.setTop (mkF m 62 #[.val (.int t), .val (.int sq), .val (.int dq), .val (.int s1), .val (.int t1), .val (.int d1), .val (.int v1), .val (.int s2), .val (.int t2), .val (.int d2), .val (.int v2), .val (.int (0 : Int32)), .val (.int (0 : Int32))] [(.double (FP.l2d (0 : Int64)))])) _
              exact retOut X0 hx (t := .double) (i := .dreturn) Bd.returns rfl (Or.inr (Or.inr (Or.inl ⟨rfl, rfl, _, rfl⟩))) (hb hby own_d_method_2_code_62) hr
            · show QP (.double (FP.l2d (own_c t sq dq s1 t1 d1 v1 s2 t2 d2 v2))) h0 n0 _ s₁.heap _
              rw [e0]
              exact ⟨by rw [own_c, if_pos f1, if_neg f2, own_c1, if_pos e1, if_neg e2, own_f, if_neg cd], N0, rfl⟩
      · have pre14 : ∀ tt_, Steps p.tables e below (s₁.setTop (mkF m 54 #[.val (.int t), .val (.int sq), .val (.int dq), .val (.int s1), .val (.int t1), .val (.int d1), .val (.int v1), .val (.int s2), .val (.int t2), .val (.int d2), .val (.int v2), .val (.int (0 : Int32)), .val (.int (0 : Int32))] [(.int dq), (.int (0 : Int32))])) tt_ → Steps p.tables e below (s₁.setTop (entryFrame m #[(.int t), (.int sq), (.int dq), (.int s1), (.int t1), (.int d1), (.int v1), (.int s2), (.int t2), (.int d2), (.int v2)] 13)) tt_ := fun tt_ kk_ => pre6 tt_ (by
          show Steps p.tables e below (s₁.setTop (mkF m 26 #[.val (.int t), .val (.int sq), .val (.int dq), .val (.int s1), .val (.int t1), .val (.int d1), .val (.int v1), .val (.int s2), .val (.int t2), .val (.int d2), .val (.int v2), .unset, .unset] [(.int t), (.int t1)])) _
          refine XS.icmpYes X0.here hx rfl (pc0 := 26) (pc' := 45) rfl (hb hby own_d_method_2_code_26) rfl (feq (e1 : ¬ (t1 = t))).2 (by decide) (by decide) ?_
          show Steps p.tables e below (s₁.setTop (mkF m 45 #[.val (.int t), .val (.int sq), .val (.int dq), .val (.int s1), .val (.int t1), .val (.int d1), .val (.int v1), .val (.int s2), .val (.int t2), .val (.int d2), .val (.int v2), .unset, .unset] [])) _
          refine XS.iconst X0.here hx rfl (hb hby own_d_method_2_code_45) ?_
          show Steps p.tables e below (s₁.setTop (mkF m 46 #[.val (.int t), .val (.int sq), .val (.int dq), .val (.int s1), .val (.int t1), .val (.int d1), .val (.int v1), .val (.int s2), .val (.int t2), .val (.int d2), .val (.int v2), .unset, .unset] [(.int (0 : Int32))])) _
          refine XS.istore X0.here hx rfl (hb hby own_d_method_2_code_46) rfl (l' := #[.val (.int t), .val (.int sq), .val (.int dq), .val (.int s1), .val (.int t1), .val (.int d1), .val (.int v1), .val (.int s2), .val (.int t2), .val (.int d2), .val (.int v2), .val (.int (0 : Int32)), .unset]) rfl ?_
          show Steps p.tables e below (s₁.setTop (mkF m 48 #[.val (.int t), .val (.int sq), .val (.int dq), .val (.int s1), .val (.int t1), .val (.int d1), .val (.int v1), .val (.int s2), .val (.int t2), .val (.int d2), .val (.int v2), .val (.int (0 : Int32)), .unset] [])) _
          refine XS.iconst X0.here hx rfl (hb hby own_d_method_2_code_48) ?_
          show Steps p.tables e below (s₁.setTop (mkF m 49 #[.val (.int t), .val (.int sq), .val (.int dq), .val (.int s1), .val (.int t1), .val (.int d1), .val (.int v1), .val (.int s2), .val (.int t2), .val (.int d2), .val (.int v2), .val (.int (0 : Int32)), .unset] [(.int (0 : Int32))])) _
          refine XS.istore X0.here hx rfl (hb hby own_d_method_2_code_49) rfl (l' := #[.val (.int t), .val (.int sq), .val (.int dq), .val (.int s1), .val (.int t1), .val (.int d1), .val (.int v1), .val (.int s2), .val (.int t2), .val (.int d2), .val (.int v2), .val (.int (0 : Int32)), .val (.int (0 : Int32))]) rfl ?_
          show Steps p.tables e below (s₁.setTop (mkF m 51 #[.val (.int t), .val (.int sq), .val (.int dq), .val (.int s1), .val (.int t1), .val (.int d1), .val (.int v1), .val (.int s2), .val (.int t2), .val (.int d2), .val (.int v2), .val (.int (0 : Int32)), .val (.int (0 : Int32))] [])) _
          refine XS.iload X0.here hx rfl (hb hby own_d_method_2_code_51) rfl ?_
          show Steps p.tables e below (s₁.setTop (mkF m 53 #[.val (.int t), .val (.int sq), .val (.int dq), .val (.int s1), .val (.int t1), .val (.int d1), .val (.int v1), .val (.int s2), .val (.int t2), .val (.int d2), .val (.int v2), .val (.int (0 : Int32)), .val (.int (0 : Int32))] [(.int (0 : Int32))])) _
          refine XS.iloadN X0.here hx rfl (hb hby own_d_method_2_code_53) rfl ?_
          exact kk_)
        by_cases cd : (0 : Int32) = dq
        · have pre15 : ∀ tt_, Steps p.tables e below (s₁.setTop (mkF m 60 #[.val (.int t), .val (.int sq), .val (.int dq), .val (.int s1), .val (.int t1), .val (.int d1), .val (.int v1), .val (.int s2), .val (.int t2), .val (.int d2), .val (.int v2), .val (.int (0 : Int32)), .val (.int (0 : Int32))] [(.double (FP.l2d ((0 : Int32).toInt64)))])) tt_ → Steps p.tables e below (s₁.setTop (entryFrame m #[(.int t), (.int sq), (.int dq), (.int s1), (.int t1), (.int d1), (.int v1), (.int s2), (.int t2), (.int d2), (.int v2)] 13)) tt_ := fun tt_ kk_ => pre14 tt_ (by
            show Steps p.tables e below (s₁.setTop (mkF m 54 #[.val (.int t), .val (.int sq), .val (.int dq), .val (.int s1), .val (.int t1), .val (.int d1), .val (.int v1), .val (.int s2), .val (.int t2), .val (.int d2), .val (.int v2), .val (.int (0 : Int32)), .val (.int (0 : Int32))] [(.int dq), (.int (0 : Int32))])) _
            refine XS.icmpNo X0.here hx rfl (hb hby own_d_method_2_code_54) rfl (teq (cd : (0 : Int32) = dq)).2 ?_
            show Steps p.tables e below (s₁.setTop (mkF m 57 #[.val (.int t), .val (.int sq), .val (.int dq), .val (.int s1), .val (.int t1), .val (.int d1), .val (.int v1), .val (.int s2), .val (.int t2), .val (.int d2), .val (.int v2), .val (.int (0 : Int32)), .val (.int (0 : Int32))] [])) _
            refine XS.iload X0.here hx rfl (hb hby own_d_method_2_code_57) rfl ?_
            show Steps p.tables e below (s₁.setTop (mkF m 59 #[.val (.int t), .val (.int sq), .val (.int dq), .val (.int s1), .val (.int t1), .val (.int d1), .val (.int v1), .val (.int s2), .val (.int t2), .val (.int d2), .val (.int v2), .val (.int (0 : Int32)), .val (.int (0 : Int32))] [(.int (0 : Int32))])) _
            refine XS.i2dS X0.here hx rfl (hb hby own_d_method_2_code_59) rfl (i2d_w _) ?_
            exact kk_)
          obtain ⟨fs, hr, hrun, hended, hW, hsame⟩ := X0.leave (v := some (.double (FP.l2d ((0 : Int32).toInt64)))) (fun h => by rw [Bd.returns] at h; cases h)
          refine ⟨_, _, pre15 _ ?_, hrun, hended, _, _, rfl, ?_, ⟨_, rfl⟩, hW, hsame.mono (by decide) (by decide)⟩
          · show Steps p.tables e below (s₁.setTop (mkF m 60 #[.val (.int t), .val (.int sq), .val (.int dq), .val (.int s1), .val (.int t1), .val (.int d1), .val (.int v1), .val (.int s2), .val (.int t2), .val (.int d2), .val (.int v2), .val (.int (0 : Int32)), .val (.int (0 : Int32))] [(.double (FP.l2d ((0 : Int32).toInt64)))])) _
            exact retOut X0 hx (t := .double) (i := .dreturn) Bd.returns rfl (Or.inr (Or.inr (Or.inl ⟨rfl, rfl, _, rfl⟩))) (hb hby own_d_method_2_code_60) hr
          · show QP (.double (FP.l2d (own_c t sq dq s1 t1 d1 v1 s2 t2 d2 v2))) h0 n0 _ s₁.heap _
            rw [e0]
            exact ⟨by rw [own_c, if_pos f1, if_neg f2, own_c1, if_neg e1, own_f, if_pos cd], N0, rfl⟩
        · have pre16 : ∀ tt_, Steps p.tables e below (s₁.setTop (mkF m 62 #[.val (.int t), .val (.int sq), .val (.int dq), .val (.int s1), .val (.int t1), .val (.int d1), .val (.int v1), .val (.int s2), .val (.int t2), .val (.int d2), .val (.int v2), .val (.int (0 : Int32)), .val (.int (0 : Int32))] [(.double (FP.l2d (0 : Int64)))])) tt_ → Steps p.tables e below (s₁.setTop (entryFrame m #[(.int t), (.int sq), (.int dq), (.int s1), (.int t1), (.int d1), (.int v1), (.int s2), (.int t2), (.int d2), (.int v2)] 13)) tt_ := fun tt_ kk_ => pre14 tt_ (by
            show Steps p.tables e below (s₁.setTop (mkF m 54 #[.val (.int t), .val (.int sq), .val (.int dq), .val (.int s1), .val (.int t1), .val (.int d1), .val (.int v1), .val (.int s2), .val (.int t2), .val (.int d2), .val (.int v2), .val (.int (0 : Int32)), .val (.int (0 : Int32))] [(.int dq), (.int (0 : Int32))])) _
            refine XS.icmpYes X0.here hx rfl (pc0 := 54) (pc' := 61) rfl (hb hby own_d_method_2_code_54) rfl (feq (cd : ¬ ((0 : Int32) = dq))).2 (by decide) (by decide) ?_
            show Steps p.tables e below (s₁.setTop (mkF m 61 #[.val (.int t), .val (.int sq), .val (.int dq), .val (.int s1), .val (.int t1), .val (.int d1), .val (.int v1), .val (.int s2), .val (.int t2), .val (.int d2), .val (.int v2), .val (.int (0 : Int32)), .val (.int (0 : Int32))] [])) _
            refine XS.dconst0 X0.here hx rfl (hb hby own_d_method_2_code_61) own_dc0 ?_
            exact kk_)
          obtain ⟨fs, hr, hrun, hended, hW, hsame⟩ := X0.leave (v := some (.double (FP.l2d (0 : Int64)))) (fun h => by rw [Bd.returns] at h; cases h)
          refine ⟨_, _, pre16 _ ?_, hrun, hended, _, _, rfl, ?_, ⟨_, rfl⟩, hW, hsame.mono (by decide) (by decide)⟩
          · show Steps p.tables e below (s₁.setTop (mkF m 62 #[.val (.int t), .val (.int sq), .val (.int dq), .val (.int s1), .val (.int t1), .val (.int d1), .val (.int v1), .val (.int s2), .val (.int t2), .val (.int d2), .val (.int v2), .val (.int (0 : Int32)), .val (.int (0 : Int32))] [(.double (FP.l2d (0 : Int64)))])) _
            exact retOut X0 hx (t := .double) (i := .dreturn) Bd.returns rfl (Or.inr (Or.inr (Or.inl ⟨rfl, rfl, _, rfl⟩))) (hb hby own_d_method_2_code_62) hr
          · show QP (.double (FP.l2d (own_c t sq dq s1 t1 d1 v1 s2 t2 d2 v2))) h0 n0 _ s₁.heap _
            rw [e0]
            exact ⟨by rw [own_c, if_pos f1, if_neg f2, own_c1, if_neg e1, own_f, if_neg cd], N0, rfl⟩
  · have pre17 : ∀ tt_, Steps p.tables e below (s₁.setTop (mkF m 26 #[.val (.int t), .val (.int sq), .val (.int dq), .val (.int s1), .val (.int t1), .val (.int d1), .val (.int v1), .val (.int s2), .val (.int t2), .val (.int d2), .val (.int v2), .unset, .unset] [(.int t), (.int t1)])) tt_ → Steps p.tables e below (s₁.setTop (entryFrame m #[(.int t), (.int sq), (.int dq), (.int s1), (.int t1), (.int d1), (.int v1), (.int s2), (.int t2), (.int d2), (.int v2)] 13)) tt_ := fun tt_ kk_ => pre1 tt_ (by
      show Steps p.tables e below (s₁.setTop (mkF m 3 #[.val (.int t), .val (.int sq), .val (.int dq), .val (.int s1), .val (.int t1), .val (.int d1), .val (.int v1), .val (.int s2), .val (.int t2), .val (.int d2), .val (.int v2), .unset, .unset] [(.int t), (.int t2)])) _
      refine XS.icmpYes X0.here hx rfl (pc0 := 3) (pc' := 23) rfl (hb hby own_d_method_2_code_3) rfl (feq (f1 : ¬ (t2 = t))).2 (by decide) (by decide) ?_
      show Steps p.tables e below (s₁.setTop (mkF m 23 #[.val (.int t), .val (.int sq), .val (.int dq), .val (.int s1), .val (.int t1), .val (.int d1), .val (.int v1), .val (.int s2), .val (.int t2), .val (.int d2), .val (.int v2), .unset, .unset] [])) _
      refine XS.iload X0.here hx rfl (hb hby own_d_method_2_code_23) rfl ?_
      show Steps p.tables e below (s₁.setTop (mkF m 25 #[.val (.int t), .val (.int sq), .val (.int dq), .val (.int s1), .val (.int t1), .val (.int d1), .val (.int v1), .val (.int s2), .val (.int t2), .val (.int d2), .val (.int v2), .unset, .unset] [(.int t1)])) _
      refine XS.iloadN X0.here hx rfl (hb hby own_d_method_2_code_25) rfl ?_
      exact kk_)
    by_cases e1 : t1 = t
    · have pre18 : ∀ tt_, Steps p.tables e below (s₁.setTop (mkF m 31 #[.val (.int t), .val (.int sq), .val (.int dq), .val (.int s1), .val (.int t1), .val (.int d1), .val (.int v1), .val (.int s2), .val (.int t2), .val (.int d2), .val (.int v2), .unset, .unset] [(.int sq), (.int s1)])) tt_ → Steps p.tables e below (s₁.setTop (entryFrame m #[(.int t), (.int sq), (.int dq), (.int s1), (.int t1), (.int d1), (.int v1), (.int s2), (.int t2), (.int d2), (.int v2)] 13)) tt_ := fun tt_ kk_ => pre17 tt_ (by
        show Steps p.tables e below (s₁.setTop (mkF m 26 #[.val (.int t), .val (.int sq), .val (.int dq), .val (.int s1), .val (.int t1), .val (.int d1), .val (.int v1), .val (.int s2), .val (.int t2), .val (.int d2), .val (.int v2), .unset, .unset] [(.int t), (.int t1)])) _
        refine XS.icmpNo X0.here hx rfl (hb hby own_d_method_2_code_26) rfl (teq (e1 : t1 = t)).2 ?_
        show Steps p.tables e below (s₁.setTop (mkF m 29 #[.val (.int t), .val (.int sq), .val (.int dq), .val (.int s1), .val (.int t1), .val (.int d1), .val (.int v1), .val (.int s2), .val (.int t2), .val (.int d2), .val (.int v2), .unset, .unset] [])) _
        refine XS.iloadN X0.here hx rfl (hb hby own_d_method_2_code_29) rfl ?_
        show Steps p.tables e below (s₁.setTop (mkF m 30 #[.val (.int t), .val (.int sq), .val (.int dq), .val (.int s1), .val (.int t1), .val (.int d1), .val (.int v1), .val (.int s2), .val (.int t2), .val (.int d2), .val (.int v2), .unset, .unset] [(.int s1)])) _
        refine XS.iloadN X0.here hx rfl (hb hby own_d_method_2_code_30) rfl ?_
        exact kk_)
      by_cases e2 : s1 = sq
      · have pre19 : ∀ tt_, Steps p.tables e below (s₁.setTop (mkF m 54 #[.val (.int t), .val (.int sq), .val (.int dq), .val (.int s1), .val (.int t1), .val (.int d1), .val (.int v1), .val (.int s2), .val (.int t2), .val (.int d2), .val (.int v2), .val (.int d1), .val (.int v1)] [(.int dq), (.int d1)])) tt_ → Steps p.tables e below (s₁.setTop (entryFrame m #[(.int t), (.int sq), (.int dq), (.int s1), (.int t1), (.int d1), (.int v1), (.int s2), (.int t2), (.int d2), (.int v2)] 13)) tt_ := fun tt_ kk_ => pre18 tt_ (by
          show Steps p.tables e below (s₁.setTop (mkF m 31 #[.val (.int t), .val (.int sq), .val (.int dq), .val (.int s1), .val (.int t1), .val (.int d1), .val (.int v1), .val (.int s2), .val (.int t2), .val (.int d2), .val (.int v2), .unset, .unset] [(.int sq), (.int s1)])) _
          refine XS.icmpNo X0.here hx rfl (hb hby own_d_method_2_code_31) rfl (teq (e2 : s1 = sq)).2 ?_
          show Steps p.tables e below (s₁.setTop (mkF m 34 #[.val (.int t), .val (.int sq), .val (.int dq), .val (.int s1), .val (.int t1), .val (.int d1), .val (.int v1), .val (.int s2), .val (.int t2), .val (.int d2), .val (.int v2), .unset, .unset] [])) _
          refine XS.iload X0.here hx rfl (hb hby own_d_method_2_code_34) rfl ?_
          show Steps p.tables e below (s₁.setTop (mkF m 36 #[.val (.int t), .val (.int sq), .val (.int dq), .val (.int s1), .val (.int t1), .val (.int d1), .val (.int v1), .val (.int s2), .val (.int t2), .val (.int d2), .val (.int v2), .unset, .unset] [(.int d1)])) _
          refine XS.istore X0.here hx rfl (hb hby own_d_method_2_code_36) rfl (l' := #[.val (.int t), .val (.int sq), .val (.int dq), .val (.int s1), .val (.int t1), .val (.int d1), .val (.int v1), .val (.int s2), .val (.int t2), .val (.int d2), .val (.int v2), .val (.int d1), .unset]) rfl ?_
          show Steps p.tables e below (s₁.setTop (mkF m 38 #[.val (.int t), .val (.int sq), .val (.int dq), .val (.int s1), .val (.int t1), .val (.int d1), .val (.int v1), .val (.int s2), .val (.int t2), .val (.int d2), .val (.int v2), .val (.int d1), .unset] [])) _
          refine XS.iload X0.here hx rfl (hb hby own_d_method_2_code_38) rfl ?_
          show Steps p.tables e below (s₁.setTop (mkF m 40 #[.val (.int t), .val (.int sq), .val (.int dq), .val (.int s1), .val (.int t1), .val (.int d1), .val (.int v1), .val (.int s2), .val (.int t2), .val (.int d2), .val (.int v2), .val (.int d1), .unset] [(.int v1)])) _
          refine XS.istore X0.here hx rfl (hb hby own_d_method_2_code_40) rfl (l' := #[.val (.int t), .val (.int sq), .val (.int dq), .val (.int s1), .val (.int t1), .val (.int d1), .val (.int v1), .val (.int s2), .val (.int t2), .val (.int d2), .val (.int v2), .val (.int d1), .val (.int v1)]) rfl ?_
          show Steps p.tables e below (s₁.setTop (mkF m 42 #[.val (.int t), .val (.int sq), .val (.int dq), .val (.int s1), .val (.int t1), .val (.int d1), .val (.int v1), .val (.int s2), .val (.int t2), .val (.int d2), .val (.int v2), .val (.int d1), .val (.int v1)] [])) _
          refine XS.goto X0.here hx rfl (pc0 := 42) (pc' := 51) rfl (hb hby own_d_method_2_code_42) (by decide) (by decide) ?_
          show Steps p.tables e below (s₁.setTop (mkF m 51 #[.val (.int t), .val (.int sq), .val (.int dq), .val (.int s1), .val (.int t1), .val (.int d1), .val (.int v1), .val (.int s2), .val (.int t2), .val (.int d2), .val (.int v2), .val (.int d1), .val (.int v1)] [])) _
          refine XS.iload X0.here hx rfl (hb hby own_d_method_2_code_51) rfl ?_
          show Steps p.tables e below (s₁.setTop (mkF m 53 #[.val (.int t), .val (.int sq), .val (.int dq), .val (.int s1), .val (.int t1), .val (.int d1), .val (.int v1), .val (.int s2), .val (.int t2), .val (.int d2), .val (.int v2), .val (.int d1), .val (.int v1)] [(.int d1)])) _
          refine XS.iloadN X0.here hx rfl (hb hby own_d_method_2_code_53) rfl ?_
          exact kk_)
        by_cases cd : d1 = dq
        · have pre20 : ∀ tt_, Steps p.tables e below (s₁.setTop (mkF m 60 #[.val (.int t), .val (.int sq), .val (.int dq), .val (.int s1), .val (.int t1), .val (.int d1), .val (.int v1), .val (.int s2), .val (.int t2), .val (.int d2), .val (.int v2), .val (.int d1), .val (.int v1)] [(.double (FP.l2d (v1.toInt64)))])) tt_ → Steps p.tables e below (s₁.setTop (entryFrame m #[(.int t), (.int sq), (.int dq), (.int s1), (.int t1), (.int d1), (.int v1), (.int s2), (.int t2), (.int d2), (.int v2)] 13)) tt_ := fun tt_ kk_ => pre19 tt_ (by
            show Steps p.tables e below (s₁.setTop (mkF m 54 #[.val (.int t), .val (.int sq), .val (.int dq), .val (.int s1), .val (.int t1), .val (.int d1), .val (.int v1), .val (.int s2), .val (.int t2), .val (.int d2), .val (.int v2), .val (.int d1), .val (.int v1)] [(.int dq), (.int d1)])) _
            refine XS.icmpNo X0.here hx rfl (hb hby own_d_method_2_code_54) rfl (teq (cd : d1 = dq)).2 ?_
            show Steps p.tables e below (s₁.setTop (mkF m 57 #[.val (.int t), .val (.int sq), .val (.int dq), .val (.int s1), .val (.int t1), .val (.int d1), .val (.int v1), .val (.int s2), .val (.int t2), .val (.int d2), .val (.int v2), .val (.int d1), .val (.int v1)] [])) _
            refine XS.iload X0.here hx rfl (hb hby own_d_method_2_code_57) rfl ?_
            show Steps p.tables e below (s₁.setTop (mkF m 59 #[.val (.int t), .val (.int sq), .val (.int dq), .val (.int s1), .val (.int t1), .val (.int d1), .val (.int v1), .val (.int s2), .val (.int t2), .val (.int d2), .val (.int v2), .val (.int d1), .val (.int v1)] [(.int v1)])) _
            refine XS.i2dS X0.here hx rfl (hb hby own_d_method_2_code_59) rfl (i2d_w _) ?_
            exact kk_)
          obtain ⟨fs, hr, hrun, hended, hW, hsame⟩ := X0.leave (v := some (.double (FP.l2d (v1.toInt64)))) (fun h => by rw [Bd.returns] at h; cases h)
          refine ⟨_, _, pre20 _ ?_, hrun, hended, _, _, rfl, ?_, ⟨_, rfl⟩, hW, hsame.mono (by decide) (by decide)⟩
          · show Steps p.tables e below (s₁.setTop (mkF m 60 #[.val (.int t), .val (.int sq), .val (.int dq), .val (.int s1), .val (.int t1), .val (.int d1), .val (.int v1), .val (.int s2), .val (.int t2), .val (.int d2), .val (.int v2), .val (.int d1), .val (.int v1)] [(.double (FP.l2d (v1.toInt64)))])) _
            exact retOut X0 hx (t := .double) (i := .dreturn) Bd.returns rfl (Or.inr (Or.inr (Or.inl ⟨rfl, rfl, _, rfl⟩))) (hb hby own_d_method_2_code_60) hr
          · show QP (.double (FP.l2d (own_c t sq dq s1 t1 d1 v1 s2 t2 d2 v2))) h0 n0 _ s₁.heap _
            rw [e0]
            exact ⟨by rw [own_c, if_neg f1, own_c1, if_pos e1, if_pos e2, own_f, if_pos cd], N0, rfl⟩
        · have pre21 : ∀ tt_, Steps p.tables e below (s₁.setTop (mkF m 62 #[.val (.int t), .val (.int sq), .val (.int dq), .val (.int s1), .val (.int t1), .val (.int d1), .val (.int v1), .val (.int s2), .val (.int t2), .val (.int d2), .val (.int v2), .val (.int d1), .val (.int v1)] [(.double (FP.l2d (0 : Int64)))])) tt_ → Steps p.tables e below (s₁.setTop (entryFrame m #[(.int t), (.int sq), (.int dq), (.int s1), (.int t1), (.int d1), (.int v1), (.int s2), (.int t2), (.int d2), (.int v2)] 13)) tt_ := fun tt_ kk_ => pre19 tt_ (by
            show Steps p.tables e below (s₁.setTop (mkF m 54 #[.val (.int t), .val (.int sq), .val (.int dq), .val (.int s1), .val (.int t1), .val (.int d1), .val (.int v1), .val (.int s2), .val (.int t2), .val (.int d2), .val (.int v2), .val (.int d1), .val (.int v1)] [(.int dq), (.int d1)])) _
            refine XS.icmpYes X0.here hx rfl (pc0 := 54) (pc' := 61) rfl (hb hby own_d_method_2_code_54) rfl (feq (cd : ¬ (d1 = dq))).2 (by decide) (by decide) ?_
            show Steps p.tables e below (s₁.setTop (mkF m 61 #[.val (.int t), .val (.int sq), .val (.int dq), .val (.int s1), .val (.int t1), .val (.int d1), .val (.int v1), .val (.int s2), .val (.int t2), .val (.int d2), .val (.int v2), .val (.int d1), .val (.int v1)] [])) _
            refine XS.dconst0 X0.here hx rfl (hb hby own_d_method_2_code_61) own_dc0 ?_
            exact kk_)
          obtain ⟨fs, hr, hrun, hended, hW, hsame⟩ := X0.leave (v := some (.double (FP.l2d (0 : Int64)))) (fun h => by rw [Bd.returns] at h; cases h)
          refine ⟨_, _, pre21 _ ?_, hrun, hended, _, _, rfl, ?_, ⟨_, rfl⟩, hW, hsame.mono (by decide) (by decide)⟩
          · show Steps p.tables e below (s₁.setTop (mkF m 62 #[.val (.int t), .val (.int sq), .val (.int dq), .val (.int s1), .val (.int t1), .val (.int d1), .val (.int v1), .val (.int s2), .val (.int t2), .val (.int d2), .val (.int v2), .val (.int d1), .val (.int v1)] [(.double (FP.l2d (0 : Int64)))])) _
            exact retOut X0 hx (t := .double) (i := .dreturn) Bd.returns rfl (Or.inr (Or.inr (Or.inl ⟨rfl, rfl, _, rfl⟩))) (hb hby own_d_method_2_code_62) hr
          · show QP (.double (FP.l2d (own_c t sq dq s1 t1 d1 v1 s2 t2 d2 v2))) h0 n0 _ s₁.heap _
            rw [e0]
            exact ⟨by rw [own_c, if_neg f1, own_c1, if_pos e1, if_pos e2, own_f, if_neg cd], N0, rfl⟩
      · have pre22 : ∀ tt_, Steps p.tables e below (s₁.setTop (mkF m 54 #[.val (.int t), .val (.int sq), .val (.int dq), .val (.int s1), .val (.int t1), .val (.int d1), .val (.int v1), .val (.int s2), .val (.int t2), .val (.int d2), .val (.int v2), .val (.int (0 : Int32)), .val (.int (0 : Int32))] [(.int dq), (.int (0 : Int32))])) tt_ → Steps p.tables e below (s₁.setTop (entryFrame m #[(.int t), (.int sq), (.int dq), (.int s1), (.int t1), (.int d1), (.int v1), (.int s2), (.int t2), (.int d2), (.int v2)] 13)) tt_ := fun tt_ kk_ => pre18 tt_ (by
          show Steps p.tables e below (s₁.setTop (mkF m 31 #[.val (.int t), .val (.int sq), .val (.int dq), .val (.int s1), .val (.int t1), .val (.int d1), .val (.int v1), .val (.int s2), .val (.int t2), .val (.int d2), .val (.int v2), .unset, .unset] [(.int sq), (.int s1)])) _
          refine XS.icmpYes X0.here hx rfl (pc0 := 31) (pc' := 45) rfl (hb hby own_d_method_2_code_31) rfl (feq (e2 : ¬ (s1 = sq))).2 (by decide) (by decide) ?_
          show Steps p.tables e below (s₁.setTop (mkF m 45 #[.val (.int t), .val (.int sq), .val (.int dq), .val (.int s1), .val (.int t1), .val (.int d1), .val (.int v1), .val (.int s2), .val (.int t2), .val (.int d2), .val (.int v2), .unset, .unset] [])) _
          refine XS.iconst X0.here hx rfl (hb hby own_d_method_2_code_45) ?_
          show Steps p.tables e below (s₁.setTop (mkF m 46 #[.val (.int t), .val (.int sq), .val (.int dq), .val (.int s1), .val (.int t1), .val (.int d1), .val (.int v1), .val (.int s2), .val (.int t2), .val (.int d2), .val (.int v2), .unset, .unset] [(.int (0 : Int32))])) _
          refine XS.istore X0.here hx rfl (hb hby own_d_method_2_code_46) rfl (l' := #[.val (.int t), .val (.int sq), .val (.int dq), .val (.int s1), .val (.int t1), .val (.int d1), .val (.int v1), .val (.int s2), .val (.int t2), .val (.int d2), .val (.int v2), .val (.int (0 : Int32)), .unset]) rfl ?_
          show Steps p.tables e below (s₁.setTop (mkF m 48 #[.val (.int t), .val (.int sq), .val (.int dq), .val (.int s1), .val (.int t1), .val (.int d1), .val (.int v1), .val (.int s2), .val (.int t2), .val (.int d2), .val (.int v2), .val (.int (0 : Int32)), .unset] [])) _
          refine XS.iconst X0.here hx rfl (hb hby own_d_method_2_code_48) ?_
          show Steps p.tables e below (s₁.setTop (mkF m 49 #[.val (.int t), .val (.int sq), .val (.int dq), .val (.int s1), .val (.int t1), .val (.int d1), .val (.int v1), .val (.int s2), .val (.int t2), .val (.int d2), .val (.int v2), .val (.int (0 : Int32)), .unset] [(.int (0 : Int32))])) _
          refine XS.istore X0.here hx rfl (hb hby own_d_method_2_code_49) rfl (l' := #[.val (.int t), .val (.int sq), .val (.int dq), .val (.int s1), .val (.int t1), .val (.int d1), .val (.int v1), .val (.int s2), .val (.int t2), .val (.int d2), .val (.int v2), .val (.int (0 : Int32)), .val (.int (0 : Int32))]) rfl ?_
          show Steps p.tables e below (s₁.setTop (mkF m 51 #[.val (.int t), .val (.int sq), .val (.int dq), .val (.int s1), .val (.int t1), .val (.int d1), .val (.int v1), .val (.int s2), .val (.int t2), .val (.int d2), .val (.int v2), .val (.int (0 : Int32)), .val (.int (0 : Int32))] [])) _
          refine XS.iload X0.here hx rfl (hb hby own_d_method_2_code_51) rfl ?_
          show Steps p.tables e below (s₁.setTop (mkF m 53 #[.val (.int t), .val (.int sq), .val (.int dq), .val (.int s1), .val (.int t1), .val (.int d1), .val (.int v1), .val (.int s2), .val (.int t2), .val (.int d2), .val (.int v2), .val (.int (0 : Int32)), .val (.int (0 : Int32))] [(.int (0 : Int32))])) _
          refine XS.iloadN X0.here hx rfl (hb hby own_d_method_2_code_53) rfl ?_
          exact kk_)
        by_cases cd : (0 : Int32) = dq
        · have pre23 : ∀ tt_, Steps p.tables e below (s₁.setTop (mkF m 60 #[.val (.int t), .val (.int sq), .val (.int dq), .val (.int s1), .val (.int t1), .val (.int d1), .val (.int v1), .val (.int s2), .val (.int t2), .val (.int d2), .val (.int v2), .val (.int (0 : Int32)), .val (.int (0 : Int32))] [(.double (FP.l2d ((0 : Int32).toInt64)))])) tt_ → Steps p.tables e below (s₁.setTop (entryFrame m #[(.int t), (.int sq), (.int dq), (.int s1), (.int t1), (.int d1), (.int v1), (.int s2), (.int t2), (.int d2), (.int v2)] 13)) tt_ := fun tt_ kk_ => pre22 tt_ (by
            show Steps p.tables e below (s₁.setTop (mkF m 54 #[.val (.int t), .val (.int sq), .val (.int dq), .val (.int s1), .val (.int t1), .val (.int d1), .val (.int v1), .val (.int s2), .val (.int t2), .val (.int d2), .val (.int v2), .val (.int (0 : Int32)), .val (.int (0 : Int32))] [(.int dq), (.int (0 : Int32))])) _
            refine XS.icmpNo X0.here hx rfl (hb hby own_d_method_2_code_54) rfl (teq (cd : (0 : Int32) = dq)).2 ?_
            show Steps p.tables e below (s₁.setTop (mkF m 57 #[.val (.int t), .val (.int sq), .val (.int dq), .val (.int s1), .val (.int t1), .val (.int d1), .val (.int v1), .val (.int s2), .val (.int t2), .val (.int d2), .val (.int v2), .val (.int (0 : Int32)), .val (.int (0 : Int32))] [])) _
            refine XS.iload X0.here hx rfl (hb hby own_d_method_2_code_57) rfl ?_
            show Steps p.tables e below (s₁.setTop (mkF m 59 #[.val (.int t), .val (.int sq), .val (.int dq), .val (.int s1), .val (.int t1), .val (.int d1), .val (.int v1), .val (.int s2), .val (.int t2), .val (.int d2), .val (.int v2), .val (.int (0 : Int32)), .val (.int (0 : Int32))] [(.int (0 : Int32))])) _
            refine XS.i2dS X0.here hx rfl (hb hby own_d_method_2_code_59) rfl (i2d_w _) ?_
            exact kk_)
          obtain ⟨fs, hr, hrun, hended, hW, hsame⟩ := X0.leave (v := some (.double (FP.l2d ((0 : Int32).toInt64)))) (fun h => by rw [Bd.returns] at h; cases h)
          refine ⟨_, _, pre23 _ ?_, hrun, hended, _, _, rfl, ?_, ⟨_, rfl⟩, hW, hsame.mono (by decide) (by decide)⟩
          · show Steps p.tables e below (s₁.setTop (mkF m 60 #[.val (.int t), .val (.int sq), .val (.int dq), .val (.int s1), .val (.int t1), .val (.int d1), .val (.int v1), .val (.int s2), .val (.int t2), .val (.int d2), .val (.int v2), .val (.int (0 : Int32)), .val (.int (0 : Int32))] [(.double (FP.l2d ((0 : Int32).toInt64)))])) _
            exact retOut X0 hx (t := .double) (i := .dreturn) Bd.returns rfl (Or.inr (Or.inr (Or.inl ⟨rfl, rfl, _, rfl⟩))) (hb hby own_d_method_2_code_60) hr
          · show QP (.double (FP.l2d (own_c t sq dq s1 t1 d1 v1 s2 t2 d2 v2))) h0 n0 _ s₁.heap _
            rw [e0]
            exact ⟨by rw [own_c, if_neg f1, own_c1, if_pos e1, if_neg e2, own_f, if_pos cd], N0, rfl⟩
        · have pre24 : ∀ tt_, Steps p.tables e below (s₁.setTop (mkF m 62 #[.val (.int t), .val (.int sq), .val (.int dq), .val (.int s1), .val (.int t1), .val (.int d1), .val (.int v1), .val (.int s2), .val (.int t2), .val (.int d2), .val (.int v2), .val (.int (0 : Int32)), .val (.int (0 : Int32))] [(.double (FP.l2d (0 : Int64)))])) tt_ → Steps p.tables e below (s₁.setTop (entryFrame m #[(.int t), (.int sq), (.int dq), (.int s1), (.int t1), (.int d1), (.int v1), (.int s2), (.int t2), (.int d2), (.int v2)] 13)) tt_ := fun tt_ kk_ => pre22 tt_ (by
            show Steps p.tables e below (s₁.setTop (mkF m 54 #[.val (.int t), .val (.int sq), .val (.int dq), .val (.int s1), .val (.int t1), .val (.int d1), .val (.int v1), .val (.int s2), .val (.int t2), .val (.int d2), .val (.int v2), .val (.int (0 : Int32)), .val (.int (0 : Int32))] [(.int dq), (.int (0 : Int32))])) _
            refine XS.icmpYes X0.here hx rfl (pc0 := 54) (pc' := 61) rfl (hb hby own_d_method_2_code_54) rfl (feq (cd : ¬ ((0 : Int32) = dq))).2 (by decide) (by decide) ?_
            show Steps p.tables e below (s₁.setTop (mkF m 61 #[.val (.int t), .val (.int sq), .val (.int dq), .val (.int s1), .val (.int t1), .val (.int d1), .val (.int v1), .val (.int s2), .val (.int t2), .val (.int d2), .val (.int v2), .val (.int (0 : Int32)), .val (.int (0 : Int32))] [])) _
            refine XS.dconst0 X0.here hx rfl (hb hby own_d_method_2_code_61) own_dc0 ?_
            exact kk_)
          obtain ⟨fs, hr, hrun, hended, hW, hsame⟩ := X0.leave (v := some (.double (FP.l2d (0 : Int64)))) (fun h => by rw [Bd.returns] at h; cases h)
          refine ⟨_, _, pre24 _ ?_, hrun, hended, _, _, rfl, ?_, ⟨_, rfl⟩, hW, hsame.mono (by decide) (by decide)⟩
          · show Steps p.tables e below (s₁.setTop (mkF m 62 #[.val (.int t), .val (.int sq), .val (.int dq), .val (.int s1), .val (.int t1), .val (.int d1), .val (.int v1), .val (.int s2), .val (.int t2), .val (.int d2), .val (.int v2), .val (.int (0 : Int32)), .val (.int (0 : Int32))] [(.double (FP.l2d (0 : Int64)))])) _
            exact retOut X0 hx (t := .double) (i := .dreturn) Bd.returns rfl (Or.inr (Or.inr (Or.inl ⟨rfl, rfl, _, rfl⟩))) (hb hby own_d_method_2_code_62) hr
          · show QP (.double (FP.l2d (own_c t sq dq s1 t1 d1 v1 s2 t2 d2 v2))) h0 n0 _ s₁.heap _
            rw [e0]
            exact ⟨by rw [own_c, if_neg f1, own_c1, if_pos e1, if_neg e2, own_f, if_neg cd], N0, rfl⟩
    · have pre25 : ∀ tt_, Steps p.tables e below (s₁.setTop (mkF m 54 #[.val (.int t), .val (.int sq), .val (.int dq), .val (.int s1), .val (.int t1), .val (.int d1), .val (.int v1), .val (.int s2), .val (.int t2), .val (.int d2), .val (.int v2), .val (.int (0 : Int32)), .val (.int (0 : Int32))] [(.int dq), (.int (0 : Int32))])) tt_ → Steps p.tables e below (s₁.setTop (entryFrame m #[(.int t), (.int sq), (.int dq), (.int s1), (.int t1), (.int d1), (.int v1), (.int s2), (.int t2), (.int d2), (.int v2)] 13)) tt_ := fun tt_ kk_ => pre17 tt_ (by
        show Steps p.tables e below (s₁.setTop (mkF m 26 #[.val (.int t), .val (.int sq), .val (.int dq), .val (.int s1), .val (.int t1), .val (.int d1), .val (.int v1), .val (.int s2), .val (.int t2), .val (.int d2), .val (.int v2), .unset, .unset] [(.int t), (.int t1)])) _
        refine XS.icmpYes X0.here hx rfl (pc0 := 26) (pc' := 45) rfl (hb hby own_d_method_2_code_26) rfl (feq (e1 : ¬ (t1 = t))).2 (by decide) (by decide) ?_
        show Steps p.tables e below (s₁.setTop (mkF m 45 #[.val (.int t), .val (.int sq), .val (.int dq), .val (.int s1), .val (.int t1), .val (.int d1), .val (.int v1), .val (.int s2), .val (.int t2), .val (.int d2), .val (.int v2), .unset, .unset] [])) _
        refine XS.iconst X0.here hx rfl (hb hby own_d_method_2_code_45) ?_
        show Steps p.tables e below (s₁.setTop (mkF m 46 #[.val (.int t), .val (.int sq), .val (.int dq), .val (.int s1), .val (.int t1), .val (.int d1), .val (.int v1), .val (.int s2), .val (.int t2), .val (.int d2), .val (.int v2), .unset, .unset] [(.int (0 : Int32))])) _
        refine XS.istore X0.here hx rfl (hb hby own_d_method_2_code_46) rfl (l' := #[.val (.int t), .val (.int sq), .val (.int dq), .val (.int s1), .val (.int t1), .val (.int d1), .val (.int v1), .val (.int s2), .val (.int t2), .val (.int d2), .val (.int v2), .val (.int (0 : Int32)), .unset]) rfl ?_
        show Steps p.tables e below (s₁.setTop (mkF m 48 #[.val (.int t), .val (.int sq), .val (.int dq), .val (.int s1), .val (.int t1), .val (.int d1), .val (.int v1), .val (.int s2), .val (.int t2), .val (.int d2), .val (.int v2), .val (.int (0 : Int32)), .unset] [])) _
        refine XS.iconst X0.here hx rfl (hb hby own_d_method_2_code_48) ?_
        show Steps p.tables e below (s₁.setTop (mkF m 49 #[.val (.int t), .val (.int sq), .val (.int dq), .val (.int s1), .val (.int t1), .val (.int d1), .val (.int v1), .val (.int s2), .val (.int t2), .val (.int d2), .val (.int v2), .val (.int (0 : Int32)), .unset] [(.int (0 : Int32))])) _
        refine XS.istore X0.here hx rfl (hb hby own_d_method_2_code_49) rfl (l' := #[.val (.int t), .val (.int sq), .val (.int dq), .val (.int s1), .val (.int t1), .val (.int d1), .val (.int v1), .val (.int s2), .val (.int t2), .val (.int d2), .val (.int v2), .val (.int (0 : Int32)), .val (.int (0 : Int32))]) rfl ?_
        show Steps p.tables e below (s₁.setTop (mkF m 51 #[.val (.int t), .val (.int sq), .val (.int dq), .val (.int s1), .val (.int t1), .val (.int d1), .val (.int v1), .val (.int s2), .val (.int t2), .val (.int d2), .val (.int v2), .val (.int (0 : Int32)), .val (.int (0 : Int32))] [])) _
        refine XS.iload X0.here hx rfl (hb hby own_d_method_2_code_51) rfl ?_
        show Steps p.tables e below (s₁.setTop (mkF m 53 #[.val (.int t), .val (.int sq), .val (.int dq), .val (.int s1), .val (.int t1), .val (.int d1), .val (.int v1), .val (.int s2), .val (.int t2), .val (.int d2), .val (.int v2), .val (.int (0 : Int32)), .val (.int (0 : Int32))] [(.int (0 : Int32))])) _
        refine XS.iloadN X0.here hx rfl (hb hby own_d_method_2_code_53) rfl ?_
        exact kk_)
      by_cases cd : (0 : Int32) = dq
      · have pre26 : ∀ tt_, Steps p.tables e below (s₁.setTop (mkF m 60 #[.val (.int t), .val (.int sq), .val (.int dq), .val (.int s1), .val (.int t1), .val (.int d1), .val (.int v1), .val (.int s2), .val (.int t2), .val (.int d2), .val (.int v2), .val (.int (0 : Int32)), .val (.int (0 : Int32))] [(.double (FP.l2d ((0 : Int32).toInt64)))])) tt_ → Steps p.tables e below (s₁.setTop (entryFrame m #[(.int t), (.int sq), (.int dq), (.int s1), (.int t1), (.int d1), (.int v1), (.int s2), (.int t2), (.int d2), (.int v2)] 13)) tt_ := fun tt_ kk_ => pre25 tt_ (by
          show Steps p.tables e below (s₁.setTop (mkF m 54 #[.val (.int t), .val (.int sq), .val (.int dq), .val (.int s1), .val (.int t1), .val (.int d1), .val (.int v1), .val (.int s2), .val (.int t2), .val (.int d2), .val (.int v2), .val (.int (0 : Int32)), .val (.int (0 : Int32))] [(.int dq), (.int (0 : Int32))])) _
          refine XS.icmpNo X0.here hx rfl (hb hby own_d_method_2_code_54) rfl (teq (cd : (0 : Int32) = dq)).2 ?_
          show Steps p.tables e below (s₁.setTop (mkF m 57 #[.val (.int t), .val (.int sq), .val (.int dq), .val (.int s1), .val (.int t1), .val (.int d1), .val (.int v1), .val (.int s2), .val (.int t2), .val (.int d2), .val (.int v2), .val (.int (0 : Int32)), .val (.int (0 : Int32))] [])) _
          refine XS.iload X0.here hx rfl (hb hby own_d_method_2_code_57) rfl ?_
          show Steps p.tables e below (s₁.setTop (mkF m 59 #[.val (.int t), .val (.int sq), .val (.int dq), .val (.int s1), .val (.int t1), .val (.int d1), .val (.int v1), .val (.int s2), .val (.int t2), .val (.int d2), .val (.int v2), .val (.int (0 : Int32)), .val (.int (0 : Int32))] [(.int (0 : Int32))])) _
          refine XS.i2dS X0.here hx rfl (hb hby own_d_method_2_code_59) rfl (i2d_w _) ?_
          exact kk_)
        obtain ⟨fs, hr, hrun, hended, hW, hsame⟩ := X0.leave (v := some (.double (FP.l2d ((0 : Int32).toInt64)))) (fun h => by rw [Bd.returns] at h; cases h)
        refine ⟨_, _, pre26 _ ?_, hrun, hended, _, _, rfl, ?_, ⟨_, rfl⟩, hW, hsame.mono (by decide) (by decide)⟩
        · show Steps p.tables e below (s₁.setTop (mkF m 60 #[.val (.int t), .val (.int sq), .val (.int dq), .val (.int s1), .val (.int t1), .val (.int d1), .val (.int v1), .val (.int s2), .val (.int t2), .val (.int d2), .val (.int v2), .val (.int (0 : Int32)), .val (.int (0 : Int32))] [(.double (FP.l2d ((0 : Int32).toInt64)))])) _
          exact retOut X0 hx (t := .double) (i := .dreturn) Bd.returns rfl (Or.inr (Or.inr (Or.inl ⟨rfl, rfl, _, rfl⟩))) (hb hby own_d_method_2_code_60) hr
        · show QP (.double (FP.l2d (own_c t sq dq s1 t1 d1 v1 s2 t2 d2 v2))) h0 n0 _ s₁.heap _
          rw [e0]
          exact ⟨by rw [own_c, if_neg f1, own_c1, if_neg e1, own_f, if_pos cd], N0, rfl⟩
      · have pre27 : ∀ tt_, Steps p.tables e below (s₁.setTop (mkF m 62 #[.val (.int t), .val (.int sq), .val (.int dq), .val (.int s1), .val (.int t1), .val (.int d1), .val (.int v1), .val (.int s2), .val (.int t2), .val (.int d2), .val (.int v2), .val (.int (0 : Int32)), .val (.int (0 : Int32))] [(.double (FP.l2d (0 : Int64)))])) tt_ → Steps p.tables e below (s₁.setTop (entryFrame m #[(.int t), (.int sq), (.int dq), (.int s1), (.int t1), (.int d1), (.int v1), (.int s2), (.int t2), (.int d2), (.int v2)] 13)) tt_ := fun tt_ kk_ => pre25 tt_ (by
          show Steps p.tables e below (s₁.setTop (mkF m 54 #[.val (.int t), .val (.int sq), .val (.int dq), .val (.int s1), .val (.int t1), .val (.int d1), .val (.int v1), .val (.int s2), .val (.int t2), .val (.int d2), .val (.int v2), .val (.int (0 : Int32)), .val (.int (0 : Int32))] [(.int dq), (.int (0 : Int32))])) _
          refine XS.icmpYes X0.here hx rfl (pc0 := 54) (pc' := 61) rfl (hb hby own_d_method_2_code_54) rfl (feq (cd : ¬ ((0 : Int32) = dq))).2 (by decide) (by decide) ?_
          show Steps p.tables e below (s₁.setTop (mkF m 61 #[.val (.int t), .val (.int sq), .val (.int dq), .val (.int s1), .val (.int t1), .val (.int d1), .val (.int v1), .val (.int s2), .val (.int t2), .val (.int d2), .val (.int v2), .val (.int (0 : Int32)), .val (.int (0 : Int32))] [])) _
          refine XS.dconst0 X0.here hx rfl (hb hby own_d_method_2_code_61) own_dc0 ?_
          exact kk_)
        obtain ⟨fs, hr, hrun, hended, hW, hsame⟩ := X0.leave (v := some (.double (FP.l2d (0 : Int64)))) (fun h => by rw [Bd.returns] at h; cases h)
        refine ⟨_, _, pre27 _ ?_, hrun, hended, _, _, rfl, ?_, ⟨_, rfl⟩, hW, hsame.mono (by decide) (by decide)⟩
        · show Steps p.tables e below (s₁.setTop (mkF m 62 #[.val (.int t), .val (.int sq), .val (.int dq), .val (.int s1), .val (.int t1), .val (.int d1), .val (.int v1), .val (.int s2), .val (.int t2), .val (.int d2), .val (.int v2), .val (.int (0 : Int32)), .val (.int (0 : Int32))] [(.double (FP.l2d (0 : Int64)))])) _
          exact retOut X0 hx (t := .double) (i := .dreturn) Bd.returns rfl (Or.inr (Or.inr (Or.inl ⟨rfl, rfl, _, rfl⟩))) (hb hby own_d_method_2_code_62) hr
        · show QP (.double (FP.l2d (own_c t sq dq s1 t1 d1 v1 s2 t2 d2 v2))) h0 n0 _ s₁.heap _
          rw [e0]
          exact ⟨by rw [own_c, if_neg f1, own_c1, if_neg e1, own_f, if_neg cd], N0, rfl⟩
set_option maxHeartbeats 4000000 in
theorem own_read0 (s1 t1 s2 t2 sq dq p2 dd p4 p5 : Int32) (hs1 : s1 = 0 ∨ s1 = 1 ∨ s1 = 2) (ht1 : t1 = 0 ∨ t1 = 1) (hs2 : s2 = 0 ∨ s2 = 1 ∨ s2 = 2) (ht2 : t2 = 0 ∨ t2 = 1) (hsq : sq = 0 ∨ sq = 1 ∨ sq = 2) : ∃ (v : Int32) (x : Int64), own_B 1 x ∧ getH ((((t2 * (3 : Int32)) + s2), .int dd) :: ((((t1 * (3 : Int32)) + s1), .int p2) :: [])) [(.int (0 : Int32)), (.int (0 : Int32)), (.int (0 : Int32)), (.int (0 : Int32)), (.int (0 : Int32)), (.int (0 : Int32))] (.int (0 : Int32)) (sq).toNatClampNeg = .int v ∧ getH ((((t2 * (3 : Int32)) + s2), .double (FP.l2d (p5.toInt64))) :: ((((t1 * (3 : Int32)) + s1), .double (FP.l2d (p4.toInt64))) :: [])) [(.double (FP.l2d (0 : Int64))), (.double (FP.l2d (0 : Int64))), (.double (FP.l2d (0 : Int64))), (.double (FP.l2d (0 : Int64))), (.double (FP.l2d (0 : Int64))), (.double (FP.l2d (0 : Int64)))] (.double (FP.l2d (0 : Int64))) (sq).toNatClampNeg = .double (FP.l2d x) ∧ own_c (0 : Int32) sq dq s1 t1 p2 p4 s2 t2 dd p5 = own_f v dq x := by
  rcases hs1 with rfl | rfl | rfl <;> rcases ht1 with rfl | rfl <;> rcases hs2 with rfl | rfl | rfl <;> rcases ht2 with rfl | rfl <;> rcases hsq with rfl | rfl | rfl
  · exact ⟨dd, p5.toInt64, own_bI _, (getH_hit (by decide) (by decide)), (getH_hit (by decide) (by decide)), rfl⟩
  · exact ⟨0, 0, own_bz, (getH_miss (by decide) (by decide) (getH_miss (by decide) (by decide) (getH_all rfl _))), (getH_miss (by decide) (by decide) (getH_miss (by decide) (by decide) (getH_all rfl _))), rfl⟩
  · exact ⟨0, 0, own_bz, (getH_miss (by decide) (by decide) (getH_miss (by decide) (by decide) (getH_all rfl _))), (getH_miss (by decide) (by decide) (getH_miss (by decide) (by decide) (getH_all rfl _))), rfl⟩
  · exact ⟨p2, p4.toInt64, own_bI _, (getH_miss (by decide) (by decide) (getH_hit (by decide) (by decide))), (getH_miss (by decide) (by decide) (getH_hit (by decide) (by decide))), rfl⟩
  · exact ⟨0, 0, own_bz, (getH_miss (by decide) (by decide) (getH_miss (by decide) (by decide) (getH_all rfl _))), (getH_miss (by decide) (by decide) (getH_miss (by decide) (by decide) (getH_all rfl _))), rfl⟩
  · exact ⟨0, 0, own_bz, (getH_miss (by decide) (by decide) (getH_miss (by decide) (by decide) (getH_all rfl _))), (getH_miss (by decide) (by decide) (getH_miss (by decide) (by decide) (getH_all rfl _))), rfl⟩
  · exact ⟨p2, p4.toInt64, own_bI _, (getH_miss (by decide) (by decide) (getH_hit (by decide) (by decide))), (getH_miss (by decide) (by decide) (getH_hit (by decide) (by decide))), rfl⟩
  · exact ⟨dd, p5.toInt64, own_bI _, (getH_hit (by decide) (by decide)), (getH_hit (by decide) (by decide)), rfl⟩
  · exact ⟨0, 0, own_bz, (getH_miss (by decide) (by decide) (getH_miss (by decide) (by decide) (getH_all rfl _))), (getH_miss (by decide) (by decide) (getH_miss (by decide) (by decide) (getH_all rfl _))), rfl⟩
  · exact ⟨p2, p4.toInt64, own_bI _, (getH_miss (by decide) (by decide) (getH_hit (by decide) (by decide))), (getH_miss (by decide) (by decide) (getH_hit (by decide) (by decide))), rfl⟩
  · exact ⟨0, 0, own_bz, (getH_miss (by decide) (by decide) (getH_miss (by decide) (by decide) (getH_all rfl _))), (getH_miss (by decide) (by decide) (getH_miss (by decide) (by decide) (getH_all rfl _))), rfl⟩
  · exact ⟨0, 0, own_bz, (getH_miss (by decide) (by decide) (getH_miss (by decide) (by decide) (getH_all rfl _))), (getH_miss (by decide) (by decide) (getH_miss (by decide) (by decide) (getH_all rfl _))), rfl⟩
  · exact ⟨p2, p4.toInt64, own_bI _, (getH_miss (by decide) (by decide) (getH_hit (by decide) (by decide))), (getH_miss (by decide) (by decide) (getH_hit (by decide) (by decide))), rfl⟩
  · exact ⟨0, 0, own_bz, (getH_miss (by decide) (by decide) (getH_miss (by decide) (by decide) (getH_all rfl _))), (getH_miss (by decide) (by decide) (getH_miss (by decide) (by decide) (getH_all rfl _))), rfl⟩
  · exact ⟨dd, p5.toInt64, own_bI _, (getH_hit (by decide) (by decide)), (getH_hit (by decide) (by decide)), rfl⟩
  · exact ⟨p2, p4.toInt64, own_bI _, (getH_miss (by decide) (by decide) (getH_hit (by decide) (by decide))), (getH_miss (by decide) (by decide) (getH_hit (by decide) (by decide))), rfl⟩
  · exact ⟨0, 0, own_bz, (getH_miss (by decide) (by decide) (getH_miss (by decide) (by decide) (getH_all rfl _))), (getH_miss (by decide) (by decide) (getH_miss (by decide) (by decide) (getH_all rfl _))), rfl⟩
  · exact ⟨0, 0, own_bz, (getH_miss (by decide) (by decide) (getH_miss (by decide) (by decide) (getH_all rfl _))), (getH_miss (by decide) (by decide) (getH_miss (by decide) (by decide) (getH_all rfl _))), rfl⟩
  · exact ⟨dd, p5.toInt64, own_bI _, (getH_hit (by decide) (by decide)), (getH_hit (by decide) (by decide)), rfl⟩
  · exact ⟨0, 0, own_bz, (getH_miss (by decide) (by decide) (getH_miss (by decide) (by decide) (getH_all rfl _))), (getH_miss (by decide) (by decide) (getH_miss (by decide) (by decide) (getH_all rfl _))), rfl⟩
  · exact ⟨0, 0, own_bz, (getH_miss (by decide) (by decide) (getH_miss (by decide) (by decide) (getH_all rfl _))), (getH_miss (by decide) (by decide) (getH_miss (by decide) (by decide) (getH_all rfl _))), rfl⟩
  · exact ⟨0, 0, own_bz, (getH_miss (by decide) (by decide) (getH_miss (by decide) (by decide) (getH_all rfl _))), (getH_miss (by decide) (by decide) (getH_miss (by decide) (by decide) (getH_all rfl _))), rfl⟩
  · exact ⟨0, 0, own_bz, (getH_miss (by decide) (by decide) (getH_miss (by decide) (by decide) (getH_all rfl _))), (getH_miss (by decide) (by decide) (getH_miss (by decide) (by decide) (getH_all rfl _))), rfl⟩
  · exact ⟨0, 0, own_bz, (getH_miss (by decide) (by decide) (getH_miss (by decide) (by decide) (getH_all rfl _))), (getH_miss (by decide) (by decide) (getH_miss (by decide) (by decide) (getH_all rfl _))), rfl⟩
  · exact ⟨0, 0, own_bz, (getH_miss (by decide) (by decide) (getH_miss (by decide) (by decide) (getH_all rfl _))), (getH_miss (by decide) (by decide) (getH_miss (by decide) (by decide) (getH_all rfl _))), rfl⟩
  · exact ⟨dd, p5.toInt64, own_bI _, (getH_hit (by decide) (by decide)), (getH_hit (by decide) (by decide)), rfl⟩
  · exact ⟨0, 0, own_bz, (getH_miss (by decide) (by decide) (getH_miss (by decide) (by decide) (getH_all rfl _))), (getH_miss (by decide) (by decide) (getH_miss (by decide) (by decide) (getH_all rfl _))), rfl⟩
  · exact ⟨0, 0, own_bz, (getH_miss (by decide) (by decide) (getH_miss (by decide) (by decide) (getH_all rfl _))), (getH_miss (by decide) (by decide) (getH_miss (by decide) (by decide) (getH_all rfl _))), rfl⟩
  · exact ⟨0, 0, own_bz, (getH_miss (by decide) (by decide) (getH_miss (by decide) (by decide) (getH_all rfl _))), (getH_miss (by decide) (by decide) (getH_miss (by decide) (by decide) (getH_all rfl _))), rfl⟩
  · exact ⟨0, 0, own_bz, (getH_miss (by decide) (by decide) (getH_miss (by decide) (by decide) (getH_all rfl _))), (getH_miss (by decide) (by decide) (getH_miss (by decide) (by decide) (getH_all rfl _))), rfl⟩
  · exact ⟨0, 0, own_bz, (getH_miss (by decide) (by decide) (getH_miss (by decide) (by decide) (getH_all rfl _))), (getH_miss (by decide) (by decide) (getH_miss (by decide) (by decide) (getH_all rfl _))), rfl⟩
  · exact ⟨0, 0, own_bz, (getH_miss (by decide) (by decide) (getH_miss (by decide) (by decide) (getH_all rfl _))), (getH_miss (by decide) (by decide) (getH_miss (by decide) (by decide) (getH_all rfl _))), rfl⟩
  · exact ⟨dd, p5.toInt64, own_bI _, (getH_hit (by decide) (by decide)), (getH_hit (by decide) (by decide)), rfl⟩
  · exact ⟨0, 0, own_bz, (getH_miss (by decide) (by decide) (getH_miss (by decide) (by decide) (getH_all rfl _))), (getH_miss (by decide) (by decide) (getH_miss (by decide) (by decide) (getH_all rfl _))), rfl⟩
  · exact ⟨0, 0, own_bz, (getH_miss (by decide) (by decide) (getH_miss (by decide) (by decide) (getH_all rfl _))), (getH_miss (by decide) (by decide) (getH_miss (by decide) (by decide) (getH_all rfl _))), rfl⟩
  · exact ⟨0, 0, own_bz, (getH_miss (by decide) (by decide) (getH_miss (by decide) (by decide) (getH_all rfl _))), (getH_miss (by decide) (by decide) (getH_miss (by decide) (by decide) (getH_all rfl _))), rfl⟩
  · exact ⟨dd, p5.toInt64, own_bI _, (getH_hit (by decide) (by decide)), (getH_hit (by decide) (by decide)), rfl⟩
  · exact ⟨p2, p4.toInt64, own_bI _, (getH_miss (by decide) (by decide) (getH_hit (by decide) (by decide))), (getH_miss (by decide) (by decide) (getH_hit (by decide) (by decide))), rfl⟩
  · exact ⟨0, 0, own_bz, (getH_miss (by decide) (by decide) (getH_miss (by decide) (by decide) (getH_all rfl _))), (getH_miss (by decide) (by decide) (getH_miss (by decide) (by decide) (getH_all rfl _))), rfl⟩
  · exact ⟨0, 0, own_bz, (getH_miss (by decide) (by decide) (getH_miss (by decide) (by decide) (getH_all rfl _))), (getH_miss (by decide) (by decide) (getH_miss (by decide) (by decide) (getH_all rfl _))), rfl⟩
  · exact ⟨p2, p4.toInt64, own_bI _, (getH_miss (by decide) (by decide) (getH_hit (by decide) (by decide))), (getH_miss (by decide) (by decide) (getH_hit (by decide) (by decide))), rfl⟩
  · exact ⟨0, 0, own_bz, (getH_miss (by decide) (by decide) (getH_miss (by decide) (by decide) (getH_all rfl _))), (getH_miss (by decide) (by decide) (getH_miss (by decide) (by decide) (getH_all rfl _))), rfl⟩
  · exact ⟨0, 0, own_bz, (getH_miss (by decide) (by decide) (getH_miss (by decide) (by decide) (getH_all rfl _))), (getH_miss (by decide) (by decide) (getH_miss (by decide) (by decide) (getH_all rfl _))), rfl⟩
  · exact ⟨dd, p5.toInt64, own_bI _, (getH_hit (by decide) (by decide)), (getH_hit (by decide) (by decide)), rfl⟩
  · exact ⟨0, 0, own_bz, (getH_miss (by decide) (by decide) (getH_miss (by decide) (by decide) (getH_all rfl _))), (getH_miss (by decide) (by decide) (getH_miss (by decide) (by decide) (getH_all rfl _))), rfl⟩
  · exact ⟨0, 0, own_bz, (getH_miss (by decide) (by decide) (getH_miss (by decide) (by decide) (getH_all rfl _))), (getH_miss (by decide) (by decide) (getH_miss (by decide) (by decide) (getH_all rfl _))), rfl⟩
  · exact ⟨p2, p4.toInt64, own_bI _, (getH_miss (by decide) (by decide) (getH_hit (by decide) (by decide))), (getH_miss (by decide) (by decide) (getH_hit (by decide) (by decide))), rfl⟩
  · exact ⟨0, 0, own_bz, (getH_miss (by decide) (by decide) (getH_miss (by decide) (by decide) (getH_all rfl _))), (getH_miss (by decide) (by decide) (getH_miss (by decide) (by decide) (getH_all rfl _))), rfl⟩
  · exact ⟨0, 0, own_bz, (getH_miss (by decide) (by decide) (getH_miss (by decide) (by decide) (getH_all rfl _))), (getH_miss (by decide) (by decide) (getH_miss (by decide) (by decide) (getH_all rfl _))), rfl⟩
  · exact ⟨p2, p4.toInt64, own_bI _, (getH_miss (by decide) (by decide) (getH_hit (by decide) (by decide))), (getH_miss (by decide) (by decide) (getH_hit (by decide) (by decide))), rfl⟩
  · exact ⟨dd, p5.toInt64, own_bI _, (getH_hit (by decide) (by decide)), (getH_hit (by decide) (by decide)), rfl⟩
  · exact ⟨0, 0, own_bz, (getH_miss (by decide) (by decide) (getH_miss (by decide) (by decide) (getH_all rfl _))), (getH_miss (by decide) (by decide) (getH_miss (by decide) (by decide) (getH_all rfl _))), rfl⟩
  · exact ⟨p2, p4.toInt64, own_bI _, (getH_miss (by decide) (by decide) (getH_hit (by decide) (by decide))), (getH_miss (by decide) (by decide) (getH_hit (by decide) (by decide))), rfl⟩
  · exact ⟨0, 0, own_bz, (getH_miss (by decide) (by decide) (getH_miss (by decide) (by decide) (getH_all rfl _))), (getH_miss (by decide) (by decide) (getH_miss (by decide) (by decide) (getH_all rfl _))), rfl⟩
  · exact ⟨dd, p5.toInt64, own_bI _, (getH_hit (by decide) (by decide)), (getH_hit (by decide) (by decide)), rfl⟩
  · exact ⟨0, 0, own_bz, (getH_miss (by decide) (by decide) (getH_miss (by decide) (by decide) (getH_all rfl _))), (getH_miss (by decide) (by decide) (getH_miss (by decide) (by decide) (getH_all rfl _))), rfl⟩
  · exact ⟨0, 0, own_bz, (getH_miss (by decide) (by decide) (getH_miss (by decide) (by decide) (getH_all rfl _))), (getH_miss (by decide) (by decide) (getH_miss (by decide) (by decide) (getH_all rfl _))), rfl⟩
  · exact ⟨0, 0, own_bz, (getH_miss (by decide) (by decide) (getH_miss (by decide) (by decide) (getH_all rfl _))), (getH_miss (by decide) (by decide) (getH_miss (by decide) (by decide) (getH_all rfl _))), rfl⟩
  · exact ⟨0, 0, own_bz, (getH_miss (by decide) (by decide) (getH_miss (by decide) (by decide) (getH_all rfl _))), (getH_miss (by decide) (by decide) (getH_miss (by decide) (by decide) (getH_all rfl _))), rfl⟩
  · exact ⟨0, 0, own_bz, (getH_miss (by decide) (by decide) (getH_miss (by decide) (by decide) (getH_all rfl _))), (getH_miss (by decide) (by decide) (getH_miss (by decide) (by decide) (getH_all rfl _))), rfl⟩
  · exact ⟨0, 0, own_bz, (getH_miss (by decide) (by decide) (getH_miss (by decide) (by decide) (getH_all rfl _))), (getH_miss (by decide) (by decide) (getH_miss (by decide) (by decide) (getH_all rfl _))), rfl⟩
  · exact ⟨dd, p5.toInt64, own_bI _, (getH_hit (by decide) (by decide)), (getH_hit (by decide) (by decide)), rfl⟩
  · exact ⟨0, 0, own_bz, (getH_miss (by decide) (by decide) (getH_miss (by decide) (by decide) (getH_all rfl _))), (getH_miss (by decide) (by decide) (getH_miss (by decide) (by decide) (getH_all rfl _))), rfl⟩
  · exact ⟨0, 0, own_bz, (getH_miss (by decide) (by decide) (getH_miss (by decide) (by decide) (getH_all rfl _))), (getH_miss (by decide) (by decide) (getH_miss (by decide) (by decide) (getH_all rfl _))), rfl⟩
  · exact ⟨0, 0, own_bz, (getH_miss (by decide) (by decide) (getH_miss (by decide) (by decide) (getH_all rfl _))), (getH_miss (by decide) (by decide) (getH_miss (by decide) (by decide) (getH_all rfl _))), rfl⟩
  · exact ⟨0, 0, own_bz, (getH_miss (by decide) (by decide) (getH_miss (by decide) (by decide) (getH_all rfl _))), (getH_miss (by decide) (by decide) (getH_miss (by decide) (by decide) (getH_all rfl _))), rfl⟩
  · exact ⟨0, 0, own_bz, (getH_miss (by decide) (by decide) (getH_miss (by decide) (by decide) (getH_all rfl _))), (getH_miss (by decide) (by decide) (getH_miss (by decide) (by decide) (getH_all rfl _))), rfl⟩
  · exact ⟨0, 0, own_bz, (getH_miss (by decide) (by decide) (getH_miss (by decide) (by decide) (getH_all rfl _))), (getH_miss (by decide) (by decide) (getH_miss (by decide) (by decide) (getH_all rfl _))), rfl⟩
  · exact ⟨dd, p5.toInt64, own_bI _, (getH_hit (by decide) (by decide)), (getH_hit (by decide) (by decide)), rfl⟩
  · exact ⟨0, 0, own_bz, (getH_miss (by decide) (by decide) (getH_miss (by decide) (by decide) (getH_all rfl _))), (getH_miss (by decide) (by decide) (getH_miss (by decide) (by decide) (getH_all rfl _))), rfl⟩
  · exact ⟨0, 0, own_bz, (getH_miss (by decide) (by decide) (getH_miss (by decide) (by decide) (getH_all rfl _))), (getH_miss (by decide) (by decide) (getH_miss (by decide) (by decide) (getH_all rfl _))), rfl⟩
  · exact ⟨0, 0, own_bz, (getH_miss (by decide) (by decide) (getH_miss (by decide) (by decide) (getH_all rfl _))), (getH_miss (by decide) (by decide) (getH_miss (by decide) (by decide) (getH_all rfl _))), rfl⟩
  · exact ⟨dd, p5.toInt64, own_bI _, (getH_hit (by decide) (by decide)), (getH_hit (by decide) (by decide)), rfl⟩
  · exact ⟨0, 0, own_bz, (getH_miss (by decide) (by decide) (getH_miss (by decide) (by decide) (getH_all rfl _))), (getH_miss (by decide) (by decide) (getH_miss (by decide) (by decide) (getH_all rfl _))), rfl⟩
  · exact ⟨p2, p4.toInt64, own_bI _, (getH_miss (by decide) (by decide) (getH_hit (by decide) (by decide))), (getH_miss (by decide) (by decide) (getH_hit (by decide) (by decide))), rfl⟩
  · exact ⟨0, 0, own_bz, (getH_miss (by decide) (by decide) (getH_miss (by decide) (by decide) (getH_all rfl _))), (getH_miss (by decide) (by decide) (getH_miss (by decide) (by decide) (getH_all rfl _))), rfl⟩
  · exact ⟨0, 0, own_bz, (getH_miss (by decide) (by decide) (getH_miss (by decide) (by decide) (getH_all rfl _))), (getH_miss (by decide) (by decide) (getH_miss (by decide) (by decide) (getH_all rfl _))), rfl⟩
  · exact ⟨p2, p4.toInt64, own_bI _, (getH_miss (by decide) (by decide) (getH_hit (by decide) (by decide))), (getH_miss (by decide) (by decide) (getH_hit (by decide) (by decide))), rfl⟩
  · exact ⟨0, 0, own_bz, (getH_miss (by decide) (by decide) (getH_miss (by decide) (by decide) (getH_all rfl _))), (getH_miss (by decide) (by decide) (getH_miss (by decide) (by decide) (getH_all rfl _))), rfl⟩
  · exact ⟨dd, p5.toInt64, own_bI _, (getH_hit (by decide) (by decide)), (getH_hit (by decide) (by decide)), rfl⟩
  · exact ⟨p2, p4.toInt64, own_bI _, (getH_miss (by decide) (by decide) (getH_hit (by decide) (by decide))), (getH_miss (by decide) (by decide) (getH_hit (by decide) (by decide))), rfl⟩
  · exact ⟨0, 0, own_bz, (getH_miss (by decide) (by decide) (getH_miss (by decide) (by decide) (getH_all rfl _))), (getH_miss (by decide) (by decide) (getH_miss (by decide) (by decide) (getH_all rfl _))), rfl⟩
  · exact ⟨0, 0, own_bz, (getH_miss (by decide) (by decide) (getH_miss (by decide) (by decide) (getH_all rfl _))), (getH_miss (by decide) (by decide) (getH_miss (by decide) (by decide) (getH_all rfl _))), rfl⟩
  · exact ⟨p2, p4.toInt64, own_bI _, (getH_miss (by decide) (by decide) (getH_hit (by decide) (by decide))), (getH_miss (by decide) (by decide) (getH_hit (by decide) (by decide))), rfl⟩
  · exact ⟨0, 0, own_bz, (getH_miss (by decide) (by decide) (getH_miss (by decide) (by decide) (getH_all rfl _))), (getH_miss (by decide) (by decide) (getH_miss (by decide) (by decide) (getH_all rfl _))), rfl⟩
  · exact ⟨0, 0, own_bz, (getH_miss (by decide) (by decide) (getH_miss (by decide) (by decide) (getH_all rfl _))), (getH_miss (by decide) (by decide) (getH_miss (by decide) (by decide) (getH_all rfl _))), rfl⟩
  · exact ⟨dd, p5.toInt64, own_bI _, (getH_hit (by decide) (by decide)), (getH_hit (by decide) (by decide)), rfl⟩
  · exact ⟨0, 0, own_bz, (getH_miss (by decide) (by decide) (getH_miss (by decide) (by decide) (getH_all rfl _))), (getH_miss (by decide) (by decide) (getH_miss (by decide) (by decide) (getH_all rfl _))), rfl⟩
  · exact ⟨0, 0, own_bz, (getH_miss (by decide) (by decide) (getH_miss (by decide) (by decide) (getH_all rfl _))), (getH_miss (by decide) (by decide) (getH_miss (by decide) (by decide) (getH_all rfl _))), rfl⟩
  · exact ⟨p2, p4.toInt64, own_bI _, (getH_miss (by decide) (by decide) (getH_hit (by decide) (by decide))), (getH_miss (by decide) (by decide) (getH_hit (by decide) (by decide))), rfl⟩
  · exact ⟨dd, p5.toInt64, own_bI _, (getH_hit (by decide) (by decide)), (getH_hit (by decide) (by decide)), rfl⟩
  · exact ⟨0, 0, own_bz, (getH_miss (by decide) (by decide) (getH_miss (by decide) (by decide) (getH_all rfl _))), (getH_miss (by decide) (by decide) (getH_miss (by decide) (by decide) (getH_all rfl _))), rfl⟩
  · exact ⟨0, 0, own_bz, (getH_miss (by decide) (by decide) (getH_miss (by decide) (by decide) (getH_all rfl _))), (getH_miss (by decide) (by decide) (getH_miss (by decide) (by decide) (getH_all rfl _))), rfl⟩
  · exact ⟨0, 0, own_bz, (getH_miss (by decide) (by decide) (getH_miss (by decide) (by decide) (getH_all rfl _))), (getH_miss (by decide) (by decide) (getH_miss (by decide) (by decide) (getH_all rfl _))), rfl⟩
  · exact ⟨0, 0, own_bz, (getH_miss (by decide) (by decide) (getH_miss (by decide) (by decide) (getH_all rfl _))), (getH_miss (by decide) (by decide) (getH_miss (by decide) (by decide) (getH_all rfl _))), rfl⟩
  · exact ⟨0, 0, own_bz, (getH_miss (by decide) (by decide) (getH_miss (by decide) (by decide) (getH_all rfl _))), (getH_miss (by decide) (by decide) (getH_miss (by decide) (by decide) (getH_all rfl _))), rfl⟩
  · exact ⟨0, 0, own_bz, (getH_miss (by decide) (by decide) (getH_miss (by decide) (by decide) (getH_all rfl _))), (getH_miss (by decide) (by decide) (getH_miss (by decide) (by decide) (getH_all rfl _))), rfl⟩
  · exact ⟨dd, p5.toInt64, own_bI _, (getH_hit (by decide) (by decide)), (getH_hit (by decide) (by decide)), rfl⟩
  · exact ⟨0, 0, own_bz, (getH_miss (by decide) (by decide) (getH_miss (by decide) (by decide) (getH_all rfl _))), (getH_miss (by decide) (by decide) (getH_miss (by decide) (by decide) (getH_all rfl _))), rfl⟩
  · exact ⟨0, 0, own_bz, (getH_miss (by decide) (by decide) (getH_miss (by decide) (by decide) (getH_all rfl _))), (getH_miss (by decide) (by decide) (getH_miss (by decide) (by decide) (getH_all rfl _))), rfl⟩
  · exact ⟨0, 0, own_bz, (getH_miss (by decide) (by decide) (getH_miss (by decide) (by decide) (getH_all rfl _))), (getH_miss (by decide) (by decide) (getH_miss (by decide) (by decide) (getH_all rfl _))), rfl⟩
  · exact ⟨0, 0, own_bz, (getH_miss (by decide) (by decide) (getH_miss (by decide) (by decide) (getH_all rfl _))), (getH_miss (by decide) (by decide) (getH_miss (by decide) (by decide) (getH_all rfl _))), rfl⟩
  · exact ⟨0, 0, own_bz, (getH_miss (by decide) (by decide) (getH_miss (by decide) (by decide) (getH_all rfl _))), (getH_miss (by decide) (by decide) (getH_miss (by decide) (by decide) (getH_all rfl _))), rfl⟩
  · exact ⟨0, 0, own_bz, (getH_miss (by decide) (by decide) (getH_miss (by decide) (by decide) (getH_all rfl _))), (getH_miss (by decide) (by decide) (getH_miss (by decide) (by decide) (getH_all rfl _))), rfl⟩
  · exact ⟨dd, p5.toInt64, own_bI _, (getH_hit (by decide) (by decide)), (getH_hit (by decide) (by decide)), rfl⟩
  · exact ⟨0, 0, own_bz, (getH_miss (by decide) (by decide) (getH_miss (by decide) (by decide) (getH_all rfl _))), (getH_miss (by decide) (by decide) (getH_miss (by decide) (by decide) (getH_all rfl _))), rfl⟩
  · exact ⟨0, 0, own_bz, (getH_miss (by decide) (by decide) (getH_miss (by decide) (by decide) (getH_all rfl _))), (getH_miss (by decide) (by decide) (getH_miss (by decide) (by decide) (getH_all rfl _))), rfl⟩
  · exact ⟨0, 0, own_bz, (getH_miss (by decide) (by decide) (getH_miss (by decide) (by decide) (getH_all rfl _))), (getH_miss (by decide) (by decide) (getH_miss (by decide) (by decide) (getH_all rfl _))), rfl⟩
set_option maxHeartbeats 4000000 in
theorem own_read1 (s1 t1 s2 t2 sq dq p2 dd p4 p5 : Int32) (hs1 : s1 = 0 ∨ s1 = 1 ∨ s1 = 2) (ht1 : t1 = 0 ∨ t1 = 1) (hs2 : s2 = 0 ∨ s2 = 1 ∨ s2 = 2) (ht2 : t2 = 0 ∨ t2 = 1) (hsq : sq = 0 ∨ sq = 1 ∨ sq = 2) : ∃ (v : Int32) (x : Int64), own_B 1 x ∧ getH ((((t2 * (3 : Int32)) + s2), .int dd) :: ((((t1 * (3 : Int32)) + s1), .int p2) :: [])) [(.int (0 : Int32)), (.int (0 : Int32)), (.int (0 : Int32)), (.int (0 : Int32)), (.int (0 : Int32)), (.int (0 : Int32))] (.int (0 : Int32)) ((sq + (3 : Int32))).toNatClampNeg = .int v ∧ getH ((((t2 * (3 : Int32)) + s2), .double (FP.l2d (p5.toInt64))) :: ((((t1 * (3 : Int32)) + s1), .double (FP.l2d (p4.toInt64))) :: [])) [(.double (FP.l2d (0 : Int64))), (.double (FP.l2d (0 : Int64))), (.double (FP.l2d (0 : Int64))), (.double (FP.l2d (0 : Int64))), (.double (FP.l2d (0 : Int64))), (.double (FP.l2d (0 : Int64)))] (.double (FP.l2d (0 : Int64))) ((sq + (3 : Int32))).toNatClampNeg = .double (FP.l2d x) ∧ own_c (1 : Int32) sq dq s1 t1 p2 p4 s2 t2 dd p5 = own_f v dq x := by
  rcases hs1 with rfl | rfl | rfl <;> rcases ht1 with rfl | rfl <;> rcases hs2 with rfl | rfl | rfl <;> rcases ht2 with rfl | rfl <;> rcases hsq with rfl | rfl | rfl
  · exact ⟨0, 0, own_bz, (getH_miss (by decide) (by decide) (getH_miss (by decide) (by decide) (getH_all rfl _))), (getH_miss (by decide) (by decide) (getH_miss (by decide) (by decide) (getH_all rfl _))), rfl⟩
  · exact ⟨0, 0, own_bz, (getH_miss (by decide) (by decide) (getH_miss (by decide) (by decide) (getH_all rfl _))), (getH_miss (by decide) (by decide) (getH_miss (by decide) (by decide) (getH_all rfl _))), rfl⟩
  · exact ⟨0, 0, own_bz, (getH_miss (by decide) (by decide) (getH_miss (by decide) (by decide) (getH_all rfl _))), (getH_miss (by decide) (by decide) (getH_miss (by decide) (by decide) (getH_all rfl _))), rfl⟩
  · exact ⟨dd, p5.toInt64, own_bI _, (getH_hit (by decide) (by decide)), (getH_hit (by decide) (by decide)), rfl⟩
  · exact ⟨0, 0, own_bz, (getH_miss (by decide) (by decide) (getH_miss (by decide) (by decide) (getH_all rfl _))), (getH_miss (by decide) (by decide) (getH_miss (by decide) (by decide) (getH_all rfl _))), rfl⟩
  · exact ⟨0, 0, own_bz, (getH_miss (by decide) (by decide) (getH_miss (by decide) (by decide) (getH_all rfl _))), (getH_miss (by decide) (by decide) (getH_miss (by decide) (by decide) (getH_all rfl _))), rfl⟩
  · exact ⟨0, 0, own_bz, (getH_miss (by decide) (by decide) (getH_miss (by decide) (by decide) (getH_all rfl _))), (getH_miss (by decide) (by decide) (getH_miss (by decide) (by decide) (getH_all rfl _))), rfl⟩
  · exact ⟨0, 0, own_bz, (getH_miss (by decide) (by decide) (getH_miss (by decide) (by decide) (getH_all rfl _))), (getH_miss (by decide) (by decide) (getH_miss (by decide) (by decide) (getH_all rfl _))), rfl⟩
  · exact ⟨0, 0, own_bz, (getH_miss (by decide) (by decide) (getH_miss (by decide) (by decide) (getH_all rfl _))), (getH_miss (by decide) (by decide) (getH_miss (by decide) (by decide) (getH_all rfl _))), rfl⟩
  · exact ⟨0, 0, own_bz, (getH_miss (by decide) (by decide) (getH_miss (by decide) (by decide) (getH_all rfl _))), (getH_miss (by decide) (by decide) (getH_miss (by decide) (by decide) (getH_all rfl _))), rfl⟩
  · exact ⟨dd, p5.toInt64, own_bI _, (getH_hit (by decide) (by decide)), (getH_hit (by decide) (by decide)), rfl⟩
  · exact ⟨0, 0, own_bz, (getH_miss (by decide) (by decide) (getH_miss (by decide) (by decide) (getH_all rfl _))), (getH_miss (by decide) (by decide) (getH_miss (by decide) (by decide) (getH_all rfl _))), rfl⟩
  · exact ⟨0, 0, own_bz, (getH_miss (by decide) (by decide) (getH_miss (by decide) (by decide) (getH_all rfl _))), (getH_miss (by decide) (by decide) (getH_miss (by decide) (by decide) (getH_all rfl _))), rfl⟩
  · exact ⟨0, 0, own_bz, (getH_miss (by decide) (by decide) (getH_miss (by decide) (by decide) (getH_all rfl _))), (getH_miss (by decide) (by decide) (getH_miss (by decide) (by decide) (getH_all rfl _))), rfl⟩
  · exact ⟨0, 0, own_bz, (getH_miss (by decide) (by decide) (getH_miss (by decide) (by decide) (getH_all rfl _))), (getH_miss (by decide) (by decide) (getH_miss (by decide) (by decide) (getH_all rfl _))), rfl⟩
  · exact ⟨0, 0, own_bz, (getH_miss (by decide) (by decide) (getH_miss (by decide) (by decide) (getH_all rfl _))), (getH_miss (by decide) (by decide) (getH_miss (by decide) (by decide) (getH_all rfl _))), rfl⟩
  · exact ⟨0, 0, own_bz, (getH_miss (by decide) (by decide) (getH_miss (by decide) (by decide) (getH_all rfl _))), (getH_miss (by decide) (by decide) (getH_miss (by decide) (by decide) (getH_all rfl _))), rfl⟩
  · exact ⟨dd, p5.toInt64, own_bI _, (getH_hit (by decide) (by decide)), (getH_hit (by decide) (by decide)), rfl⟩
  · exact ⟨p2, p4.toInt64, own_bI _, (getH_miss (by decide) (by decide) (getH_hit (by decide) (by decide))), (getH_miss (by decide) (by decide) (getH_hit (by decide) (by decide))), rfl⟩
  · exact ⟨0, 0, own_bz, (getH_miss (by decide) (by decide) (getH_miss (by decide) (by decide) (getH_all rfl _))), (getH_miss (by decide) (by decide) (getH_miss (by decide) (by decide) (getH_all rfl _))), rfl⟩
  · exact ⟨0, 0, own_bz, (getH_miss (by decide) (by decide) (getH_miss (by decide) (by decide) (getH_all rfl _))), (getH_miss (by decide) (by decide) (getH_miss (by decide) (by decide) (getH_all rfl _))), rfl⟩
  · exact ⟨dd, p5.toInt64, own_bI _, (getH_hit (by decide) (by decide)), (getH_hit (by decide) (by decide)), rfl⟩
  · exact ⟨0, 0, own_bz, (getH_miss (by decide) (by decide) (getH_miss (by decide) (by decide) (getH_all rfl _))), (getH_miss (by decide) (by decide) (getH_miss (by decide) (by decide) (getH_all rfl _))), rfl⟩
  · exact ⟨0, 0, own_bz, (getH_miss (by decide) (by decide) (getH_miss (by decide) (by decide) (getH_all rfl _))), (getH_miss (by decide) (by decide) (getH_miss (by decide) (by decide) (getH_all rfl _))), rfl⟩
  · exact ⟨p2, p4.toInt64, own_bI _, (getH_miss (by decide) (by decide) (getH_hit (by decide) (by decide))), (getH_miss (by decide) (by decide) (getH_hit (by decide) (by decide))), rfl⟩
  · exact ⟨0, 0, own_bz, (getH_miss (by decide) (by decide) (getH_miss (by decide) (by decide) (getH_all rfl _))), (getH_miss (by decide) (by decide) (getH_miss (by decide) (by decide) (getH_all rfl _))), rfl⟩
  · exact ⟨0, 0, own_bz, (getH_miss (by decide) (by decide) (getH_miss (by decide) (by decide) (getH_all rfl _))), (getH_miss (by decide) (by decide) (getH_miss (by decide) (by decide) (getH_all rfl _))), rfl⟩
  · exact ⟨p2, p4.toInt64, own_bI _, (getH_miss (by decide) (by decide) (getH_hit (by decide) (by decide))), (getH_miss (by decide) (by decide) (getH_hit (by decide) (by decide))), rfl⟩
  · exact ⟨dd, p5.toInt64, own_bI _, (getH_hit (by decide) (by decide)), (getH_hit (by decide) (by decide)), rfl⟩
  · exact ⟨0, 0, own_bz, (getH_miss (by decide) (by decide) (getH_miss (by decide) (by decide) (getH_all rfl _))), (getH_miss (by decide) (by decide) (getH_miss (by decide) (by decide) (getH_all rfl _))), rfl⟩
  · exact ⟨p2, p4.toInt64, own_bI _, (getH_miss (by decide) (by decide) (getH_hit (by decide) (by decide))), (getH_miss (by decide) (by decide) (getH_hit (by decide) (by decide))), rfl⟩
  · exact ⟨0, 0, own_bz, (getH_miss (by decide) (by decide) (getH_miss (by decide) (by decide) (getH_all rfl _))), (getH_miss (by decide) (by decide) (getH_miss (by decide) (by decide) (getH_all rfl _))), rfl⟩
  · exact ⟨0, 0, own_bz, (getH_miss (by decide) (by decide) (getH_miss (by decide) (by decide) (getH_all rfl _))), (getH_miss (by decide) (by decide) (getH_miss (by decide) (by decide) (getH_all rfl _))), rfl⟩
  · exact ⟨p2, p4.toInt64, own_bI _, (getH_miss (by decide) (by decide) (getH_hit (by decide) (by decide))), (getH_miss (by decide) (by decide) (getH_hit (by decide) (by decide))), rfl⟩
  · exact ⟨0, 0, own_bz, (getH_miss (by decide) (by decide) (getH_miss (by decide) (by decide) (getH_all rfl _))), (getH_miss (by decide) (by decide) (getH_miss (by decide) (by decide) (getH_all rfl _))), rfl⟩
  · exact ⟨dd, p5.toInt64, own_bI _, (getH_hit (by decide) (by decide)), (getH_hit (by decide) (by decide)), rfl⟩
  · exact ⟨0, 0, own_bz, (getH_miss (by decide) (by decide) (getH_miss (by decide) (by decide) (getH_all rfl _))), (getH_miss (by decide) (by decide) (getH_miss (by decide) (by decide) (getH_all rfl _))), rfl⟩
  · exact ⟨0, 0, own_bz, (getH_miss (by decide) (by decide) (getH_miss (by decide) (by decide) (getH_all rfl _))), (getH_miss (by decide) (by decide) (getH_miss (by decide) (by decide) (getH_all rfl _))), rfl⟩
  · exact ⟨0, 0, own_bz, (getH_miss (by decide) (by decide) (getH_miss (by decide) (by decide) (getH_all rfl _))), (getH_miss (by decide) (by decide) (getH_miss (by decide) (by decide) (getH_all rfl _))), rfl⟩
  · exact ⟨dd, p5.toInt64, own_bI _, (getH_hit (by decide) (by decide)), (getH_hit (by decide) (by decide)), rfl⟩
  · exact ⟨0, 0, own_bz, (getH_miss (by decide) (by decide) (getH_miss (by decide) (by decide) (getH_all rfl _))), (getH_miss (by decide) (by decide) (getH_miss (by decide) (by decide) (getH_all rfl _))), rfl⟩
  · exact ⟨0, 0, own_bz, (getH_miss (by decide) (by decide) (getH_miss (by decide) (by decide) (getH_all rfl _))), (getH_miss (by decide) (by decide) (getH_miss (by decide) (by decide) (getH_all rfl _))), rfl⟩
  · exact ⟨0, 0, own_bz, (getH_miss (by decide) (by decide) (getH_miss (by decide) (by decide) (getH_all rfl _))), (getH_miss (by decide) (by decide) (getH_miss (by decide) (by decide) (getH_all rfl _))), rfl⟩
  · exact ⟨0, 0, own_bz, (getH_miss (by decide) (by decide) (getH_miss (by decide) (by decide) (getH_all rfl _))), (getH_miss (by decide) (by decide) (getH_miss (by decide) (by decide) (getH_all rfl _))), rfl⟩
  · exact ⟨0, 0, own_bz, (getH_miss (by decide) (by decide) (getH_miss (by decide) (by decide) (getH_all rfl _))), (getH_miss (by decide) (by decide) (getH_miss (by decide) (by decide) (getH_all rfl _))), rfl⟩
  · exact ⟨0, 0, own_bz, (getH_miss (by decide) (by decide) (getH_miss (by decide) (by decide) (getH_all rfl _))), (getH_miss (by decide) (by decide) (getH_miss (by decide) (by decide) (getH_all rfl _))), rfl⟩
  · exact ⟨dd, p5.toInt64, own_bI _, (getH_hit (by decide) (by decide)), (getH_hit (by decide) (by decide)), rfl⟩
  · exact ⟨0, 0, own_bz, (getH_miss (by decide) (by decide) (getH_miss (by decide) (by decide) (getH_all rfl _))), (getH_miss (by decide) (by decide) (getH_miss (by decide) (by decide) (getH_all rfl _))), rfl⟩
  · exact ⟨0, 0, own_bz, (getH_miss (by decide) (by decide) (getH_miss (by decide) (by decide) (getH_all rfl _))), (getH_miss (by decide) (by decide) (getH_miss (by decide) (by decide) (getH_all rfl _))), rfl⟩
  · exact ⟨0, 0, own_bz, (getH_miss (by decide) (by decide) (getH_miss (by decide) (by decide) (getH_all rfl _))), (getH_miss (by decide) (by decide) (getH_miss (by decide) (by decide) (getH_all rfl _))), rfl⟩
  · exact ⟨0, 0, own_bz, (getH_miss (by decide) (by decide) (getH_miss (by decide) (by decide) (getH_all rfl _))), (getH_miss (by decide) (by decide) (getH_miss (by decide) (by decide) (getH_all rfl _))), rfl⟩
  · exact ⟨0, 0, own_bz, (getH_miss (by decide) (by decide) (getH_miss (by decide) (by decide) (getH_all rfl _))), (getH_miss (by decide) (by decide) (getH_miss (by decide) (by decide) (getH_all rfl _))), rfl⟩
  · exact ⟨0, 0, own_bz, (getH_miss (by decide) (by decide) (getH_miss (by decide) (by decide) (getH_all rfl _))), (getH_miss (by decide) (by decide) (getH_miss (by decide) (by decide) (getH_all rfl _))), rfl⟩
  · exact ⟨dd, p5.toInt64, own_bI _, (getH_hit (by decide) (by decide)), (getH_hit (by decide) (by decide)), rfl⟩
  · exact ⟨0, 0, own_bz, (getH_miss (by decide) (by decide) (getH_miss (by decide) (by decide) (getH_all rfl _))), (getH_miss (by decide) (by decide) (getH_miss (by decide) (by decide) (getH_all rfl _))), rfl⟩
  · exact ⟨p2, p4.toInt64, own_bI _, (getH_miss (by decide) (by decide) (getH_hit (by decide) (by decide))), (getH_miss (by decide) (by decide) (getH_hit (by decide) (by decide))), rfl⟩
  · exact ⟨0, 0, own_bz, (getH_miss (by decide) (by decide) (getH_miss (by decide) (by decide) (getH_all rfl _))), (getH_miss (by decide) (by decide) (getH_miss (by decide) (by decide) (getH_all rfl _))), rfl⟩
  · exact ⟨dd, p5.toInt64, own_bI _, (getH_hit (by decide) (by decide)), (getH_hit (by decide) (by decide)), rfl⟩
  · exact ⟨p2, p4.toInt64, own_bI _, (getH_miss (by decide) (by decide) (getH_hit (by decide) (by decide))), (getH_miss (by decide) (by decide) (getH_hit (by decide) (by decide))), rfl⟩
  · exact ⟨0, 0, own_bz, (getH_miss (by decide) (by decide) (getH_miss (by decide) (by decide) (getH_all rfl _))), (getH_miss (by decide) (by decide) (getH_miss (by decide) (by decide) (getH_all rfl _))), rfl⟩
  · exact ⟨0, 0, own_bz, (getH_miss (by decide) (by decide) (getH_miss (by decide) (by decide) (getH_all rfl _))), (getH_miss (by decide) (by decide) (getH_miss (by decide) (by decide) (getH_all rfl _))), rfl⟩
  · exact ⟨p2, p4.toInt64, own_bI _, (getH_miss (by decide) (by decide) (getH_hit (by decide) (by decide))), (getH_miss (by decide) (by decide) (getH_hit (by decide) (by decide))), rfl⟩
  · exact ⟨0, 0, own_bz, (getH_miss (by decide) (by decide) (getH_miss (by decide) (by decide) (getH_all rfl _))), (getH_miss (by decide) (by decide) (getH_miss (by decide) (by decide) (getH_all rfl _))), rfl⟩
  · exact ⟨0, 0, own_bz, (getH_miss (by decide) (by decide) (getH_miss (by decide) (by decide) (getH_all rfl _))), (getH_miss (by decide) (by decide) (getH_miss (by decide) (by decide) (getH_all rfl _))), rfl⟩
  · exact ⟨dd, p5.toInt64, own_bI _, (getH_hit (by decide) (by decide)), (getH_hit (by decide) (by decide)), rfl⟩
  · exact ⟨0, 0, own_bz, (getH_miss (by decide) (by decide) (getH_miss (by decide) (by decide) (getH_all rfl _))), (getH_miss (by decide) (by decide) (getH_miss (by decide) (by decide) (getH_all rfl _))), rfl⟩
  · exact ⟨0, 0, own_bz, (getH_miss (by decide) (by decide) (getH_miss (by decide) (by decide) (getH_all rfl _))), (getH_miss (by decide) (by decide) (getH_miss (by decide) (by decide) (getH_all rfl _))), rfl⟩
  · exact ⟨p2, p4.toInt64, own_bI _, (getH_miss (by decide) (by decide) (getH_hit (by decide) (by decide))), (getH_miss (by decide) (by decide) (getH_hit (by decide) (by decide))), rfl⟩
  · exact ⟨0, 0, own_bz, (getH_miss (by decide) (by decide) (getH_miss (by decide) (by decide) (getH_all rfl _))), (getH_miss (by decide) (by decide) (getH_miss (by decide) (by decide) (getH_all rfl _))), rfl⟩
  · exact ⟨0, 0, own_bz, (getH_miss (by decide) (by decide) (getH_miss (by decide) (by decide) (getH_all rfl _))), (getH_miss (by decide) (by decide) (getH_miss (by decide) (by decide) (getH_all rfl _))), rfl⟩
  · exact ⟨p2, p4.toInt64, own_bI _, (getH_miss (by decide) (by decide) (getH_hit (by decide) (by decide))), (getH_miss (by decide) (by decide) (getH_hit (by decide) (by decide))), rfl⟩
  · exact ⟨dd, p5.toInt64, own_bI _, (getH_hit (by decide) (by decide)), (getH_hit (by decide) (by decide)), rfl⟩
  · exact ⟨0, 0, own_bz, (getH_miss (by decide) (by decide) (getH_miss (by decide) (by decide) (getH_all rfl _))), (getH_miss (by decide) (by decide) (getH_miss (by decide) (by decide) (getH_all rfl _))), rfl⟩
  · exact ⟨0, 0, own_bz, (getH_miss (by decide) (by decide) (getH_miss (by decide) (by decide) (getH_all rfl _))), (getH_miss (by decide) (by decide) (getH_miss (by decide) (by decide) (getH_all rfl _))), rfl⟩
  · exact ⟨0, 0, own_bz, (getH_miss (by decide) (by decide) (getH_miss (by decide) (by decide) (getH_all rfl _))), (getH_miss (by decide) (by decide) (getH_miss (by decide) (by decide) (getH_all rfl _))), rfl⟩
  · exact ⟨dd, p5.toInt64, own_bI _, (getH_hit (by decide) (by decide)), (getH_hit (by decide) (by decide)), rfl⟩
  · exact ⟨0, 0, own_bz, (getH_miss (by decide) (by decide) (getH_miss (by decide) (by decide) (getH_all rfl _))), (getH_miss (by decide) (by decide) (getH_miss (by decide) (by decide) (getH_all rfl _))), rfl⟩
  · exact ⟨0, 0, own_bz, (getH_miss (by decide) (by decide) (getH_miss (by decide) (by decide) (getH_all rfl _))), (getH_miss (by decide) (by decide) (getH_miss (by decide) (by decide) (getH_all rfl _))), rfl⟩
  · exact ⟨0, 0, own_bz, (getH_miss (by decide) (by decide) (getH_miss (by decide) (by decide) (getH_all rfl _))), (getH_miss (by decide) (by decide) (getH_miss (by decide) (by decide) (getH_all rfl _))), rfl⟩
  · exact ⟨0, 0, own_bz, (getH_miss (by decide) (by decide) (getH_miss (by decide) (by decide) (getH_all rfl _))), (getH_miss (by decide) (by decide) (getH_miss (by decide) (by decide) (getH_all rfl _))), rfl⟩
  · exact ⟨0, 0, own_bz, (getH_miss (by decide) (by decide) (getH_miss (by decide) (by decide) (getH_all rfl _))), (getH_miss (by decide) (by decide) (getH_miss (by decide) (by decide) (getH_all rfl _))), rfl⟩
  · exact ⟨0, 0, own_bz, (getH_miss (by decide) (by decide) (getH_miss (by decide) (by decide) (getH_all rfl _))), (getH_miss (by decide) (by decide) (getH_miss (by decide) (by decide) (getH_all rfl _))), rfl⟩
  · exact ⟨dd, p5.toInt64, own_bI _, (getH_hit (by decide) (by decide)), (getH_hit (by decide) (by decide)), rfl⟩
  · exact ⟨0, 0, own_bz, (getH_miss (by decide) (by decide) (getH_miss (by decide) (by decide) (getH_all rfl _))), (getH_miss (by decide) (by decide) (getH_miss (by decide) (by decide) (getH_all rfl _))), rfl⟩
  · exact ⟨0, 0, own_bz, (getH_miss (by decide) (by decide) (getH_miss (by decide) (by decide) (getH_all rfl _))), (getH_miss (by decide) (by decide) (getH_miss (by decide) (by decide) (getH_all rfl _))), rfl⟩
  · exact ⟨0, 0, own_bz, (getH_miss (by decide) (by decide) (getH_miss (by decide) (by decide) (getH_all rfl _))), (getH_miss (by decide) (by decide) (getH_miss (by decide) (by decide) (getH_all rfl _))), rfl⟩
  · exact ⟨0, 0, own_bz, (getH_miss (by decide) (by decide) (getH_miss (by decide) (by decide) (getH_all rfl _))), (getH_miss (by decide) (by decide) (getH_miss (by decide) (by decide) (getH_all rfl _))), rfl⟩
  · exact ⟨0, 0, own_bz, (getH_miss (by decide) (by decide) (getH_miss (by decide) (by decide) (getH_all rfl _))), (getH_miss (by decide) (by decide) (getH_miss (by decide) (by decide) (getH_all rfl _))), rfl⟩
  · exact ⟨0, 0, own_bz, (getH_miss (by decide) (by decide) (getH_miss (by decide) (by decide) (getH_all rfl _))), (getH_miss (by decide) (by decide) (getH_miss (by decide) (by decide) (getH_all rfl _))), rfl⟩
  · exact ⟨dd, p5.toInt64, own_bI _, (getH_hit (by decide) (by decide)), (getH_hit (by decide) (by decide)), rfl⟩
  · exact ⟨0, 0, own_bz, (getH_miss (by decide) (by decide) (getH_miss (by decide) (by decide) (getH_all rfl _))), (getH_miss (by decide) (by decide) (getH_miss (by decide) (by decide) (getH_all rfl _))), rfl⟩
  · exact ⟨0, 0, own_bz, (getH_miss (by decide) (by decide) (getH_miss (by decide) (by decide) (getH_all rfl _))), (getH_miss (by decide) (by decide) (getH_miss (by decide) (by decide) (getH_all rfl _))), rfl⟩
  · exact ⟨p2, p4.toInt64, own_bI _, (getH_miss (by decide) (by decide) (getH_hit (by decide) (by decide))), (getH_miss (by decide) (by decide) (getH_hit (by decide) (by decide))), rfl⟩
  · exact ⟨dd, p5.toInt64, own_bI _, (getH_hit (by decide) (by decide)), (getH_hit (by decide) (by decide)), rfl⟩
  · exact ⟨0, 0, own_bz, (getH_miss (by decide) (by decide) (getH_miss (by decide) (by decide) (getH_all rfl _))), (getH_miss (by decide) (by decide) (getH_miss (by decide) (by decide) (getH_all rfl _))), rfl⟩
  · exact ⟨p2, p4.toInt64, own_bI _, (getH_miss (by decide) (by decide) (getH_hit (by decide) (by decide))), (getH_miss (by decide) (by decide) (getH_hit (by decide) (by decide))), rfl⟩
  · exact ⟨0, 0, own_bz, (getH_miss (by decide) (by decide) (getH_miss (by decide) (by decide) (getH_all rfl _))), (getH_miss (by decide) (by decide) (getH_miss (by decide) (by decide) (getH_all rfl _))), rfl⟩
  · exact ⟨0, 0, own_bz, (getH_miss (by decide) (by decide) (getH_miss (by decide) (by decide) (getH_all rfl _))), (getH_miss (by decide) (by decide) (getH_miss (by decide) (by decide) (getH_all rfl _))), rfl⟩
  · exact ⟨p2, p4.toInt64, own_bI _, (getH_miss (by decide) (by decide) (getH_hit (by decide) (by decide))), (getH_miss (by decide) (by decide) (getH_hit (by decide) (by decide))), rfl⟩
  · exact ⟨0, 0, own_bz, (getH_miss (by decide) (by decide) (getH_miss (by decide) (by decide) (getH_all rfl _))), (getH_miss (by decide) (by decide) (getH_miss (by decide) (by decide) (getH_all rfl _))), rfl⟩
  · exact ⟨dd, p5.toInt64, own_bI _, (getH_hit (by decide) (by decide)), (getH_hit (by decide) (by decide)), rfl⟩
  · exact ⟨p2, p4.toInt64, own_bI _, (getH_miss (by decide) (by decide) (getH_hit (by decide) (by decide))), (getH_miss (by decide) (by decide) (getH_hit (by decide) (by decide))), rfl⟩
  · exact ⟨0, 0, own_bz, (getH_miss (by decide) (by decide) (getH_miss (by decide) (by decide) (getH_all rfl _))), (getH_miss (by decide) (by decide) (getH_miss (by decide) (by decide) (getH_all rfl _))), rfl⟩
  · exact ⟨0, 0, own_bz, (getH_miss (by decide) (by decide) (getH_miss (by decide) (by decide) (getH_all rfl _))), (getH_miss (by decide) (by decide) (getH_miss (by decide) (by decide) (getH_all rfl _))), rfl⟩
  · exact ⟨p2, p4.toInt64, own_bI _, (getH_miss (by decide) (by decide) (getH_hit (by decide) (by decide))), (getH_miss (by decide) (by decide) (getH_hit (by decide) (by decide))), rfl⟩
  · exact ⟨0, 0, own_bz, (getH_miss (by decide) (by decide) (getH_miss (by decide) (by decide) (getH_all rfl _))), (getH_miss (by decide) (by decide) (getH_miss (by decide) (by decide) (getH_all rfl _))), rfl⟩
  · exact ⟨0, 0, own_bz, (getH_miss (by decide) (by decide) (getH_miss (by decide) (by decide) (getH_all rfl _))), (getH_miss (by decide) (by decide) (getH_miss (by decide) (by decide) (getH_all rfl _))), rfl⟩
  · exact ⟨dd, p5.toInt64, own_bI _, (getH_hit (by decide) (by decide)), (getH_hit (by decide) (by decide)), rfl⟩
theorem own_ef_rm0 (m : MethodId) (y0 : Int32) (y1 : Int32) (y2 : Int32) (y3 : Int32) (y4 : Int32) (y5 : Int32) : entryFrame m #[(.int y0), (.int y1), (.int y2), (.int y3), (.int y4), (.int y5)] maxLocals = mkF m 0 #[.val (.int y0), .val (.int y1), .val (.int y2), .val (.int y3), .val (.int y4), .val (.int y5), .unset, .unset, .unset, .unset, .unset, .unset, .unset, .unset, .unset, .unset, .unset, .unset, .unset, .unset] [] := by first | (simp [entryFrame, mkF, argsToLocals, Value.category, maxLocals]; done) | rfl
set_option maxRecDepth 65536 in
set_option maxHeartbeats 40000000 in
theorem rm0 (l : Launch) (Z : State) (a0 : Array Value) (hw : ∀ d ∈ tables_1, d.before a0 Z = true) (ws : List Jvm.Cond) (p1 p2 p3 p4 p5 p6 : Int32) (h0 : Heap) (n0 : Nat) (Z0 : n0 ≤ h0.size)  :
    MetFree l x (head1 (Jvm.Cond.code x code maxLocals ret :: ws) room_1) (fun ar_ U => ar_ = #[(.int p1), (.int p2), (.int p3), (.int p4), (.int p5), (.int p6)] ∧ Z.Warmed39 U.vm ∧ U.heap = h0) (fun _ _ _ _ _ => True) (fun _ U o U' => ∃ v L, o = .returned v ∧ QL n0 v U'.heap L ∧ FrameEnd U o U' L 3 15) := by
  refine MetFree.of_bodySF (plainFor_of_name own_pn1) hisR ?_
  intro p e s m args below meth c s₁ Bd hml0 hP hK
  obtain ⟨rfl, hZ, hh⟩ := hP
  have hx := Bd.exec
  have hby := Bd.bytes
  have hml : c.maxLocals = 20 := hml0
  have hown : s.vm.findClass "com/example/cranfield/cranfield/search/TermScoresPutPinLaw" = some m.cls := findClass_of_methodNamed Bd.named
  have hnm := (name_of_methodNamed Bd.named Bd.method).1
  have X0 : Stand p l e room_1 s m #[(.int p1), (.int p2), (.int p3), (.int p4), (.int p5), (.int p6)] below meth c s₁ [] 0 0 := Stand.of_body Bd
  have e0 : s₁.heap = h0 := by rw [← hh, Bd.state]; rfl
  have N0 := Fr.nil n0
  have pre0 : ∀ tt_, Steps p.tables e below (s₁.setTop (mkF m 0 #[.val (.int p1), .val (.int p2), .val (.int p3), .val (.int p4), .val (.int p5), .val (.int p6), .unset, .unset, .unset, .unset, .unset, .unset, .unset, .unset, .unset, .unset, .unset, .unset, .unset, .unset] [])) tt_ → Steps p.tables e below (s₁.setTop (entryFrame m #[(.int p1), (.int p2), (.int p3), (.int p4), (.int p5), (.int p6)] maxLocals)) tt_ := fun tt_ kk_ => castTop (own_ef_rm0 m p1 p2 p3 p4 p5 p6) kk_
  have hs1 := own_m3 p1
  have pre1 : ∀ tt_, Steps p.tables e below (s₁.setTop (mkF m 7 #[.val (.int p1), .val (.int p2), .val (.int p3), .val (.int p4), .val (.int p5), .val (.int p6), .unset, .unset, .unset, .unset, .unset, .unset, .unset, .unset, .unset, .unset, .unset, .unset, .unset, .unset] [(.int ((p1 &&& (255 : Int32)) % (3 : Int32)))])) tt_ → Steps p.tables e below (s₁.setTop (entryFrame m #[(.int p1), (.int p2), (.int p3), (.int p4), (.int p5), (.int p6)] maxLocals)) tt_ := fun tt_ kk_ => pre0 tt_ (by
    show Steps p.tables e below (s₁.setTop (mkF m 0 #[.val (.int p1), .val (.int p2), .val (.int p3), .val (.int p4), .val (.int p5), .val (.int p6), .unset, .unset, .unset, .unset, .unset, .unset, .unset, .unset, .unset, .unset, .unset, .unset, .unset, .unset] [])) _
    refine XS.iloadN X0.here hx rfl (hb hby at_0) rfl ?_
    show Steps p.tables e below (s₁.setTop (mkF m 1 #[.val (.int p1), .val (.int p2), .val (.int p3), .val (.int p4), .val (.int p5), .val (.int p6), .unset, .unset, .unset, .unset, .unset, .unset, .unset, .unset, .unset, .unset, .unset, .unset, .unset, .unset] [(.int p1)])) _
    refine XS.sipush X0.here hx rfl (hb hby at_1) ?_
    show Steps p.tables e below (s₁.setTop (mkF m 4 #[.val (.int p1), .val (.int p2), .val (.int p3), .val (.int p4), .val (.int p5), .val (.int p6), .unset, .unset, .unset, .unset, .unset, .unset, .unset, .unset, .unset, .unset, .unset, .unset, .unset, .unset] [(.int (255 : Int32)), (.int p1)])) _
    refine XS.iand X0.here hx rfl (hb hby at_4) rfl ?_
    show Steps p.tables e below (s₁.setTop (mkF m 5 #[.val (.int p1), .val (.int p2), .val (.int p3), .val (.int p4), .val (.int p5), .val (.int p6), .unset, .unset, .unset, .unset, .unset, .unset, .unset, .unset, .unset, .unset, .unset, .unset, .unset, .unset] [(.int (p1 &&& (255 : Int32)))])) _
    refine XS.iconst X0.here hx rfl (hb hby at_5) ?_
    show Steps p.tables e below (s₁.setTop (mkF m 6 #[.val (.int p1), .val (.int p2), .val (.int p3), .val (.int p4), .val (.int p5), .val (.int p6), .unset, .unset, .unset, .unset, .unset, .unset, .unset, .unset, .unset, .unset, .unset, .unset, .unset, .unset] [(.int (3 : Int32)), (.int (p1 &&& (255 : Int32)))])) _
    refine iremM X0 hx rfl (hb hby at_6) rfl (by decide) ?_
    exact kk_)
  obtain ⟨s1, h_s1⟩ : ∃ z : Int32, z = ((p1 &&& (255 : Int32)) % (3 : Int32)) := ⟨_, rfl⟩
  rw [← h_s1] at pre1
  rw [← h_s1] at hs1
  have ht1 := and_one ((p1.toUInt32 >>> ((8 : Int32) &&& 31).toUInt32).toInt32)
  have pre2 : ∀ tt_, Steps p.tables e below (s₁.setTop (mkF m 15 #[.val (.int p1), .val (.int p2), .val (.int p3), .val (.int p4), .val (.int p5), .val (.int p6), .val (.int s1), .unset, .unset, .unset, .unset, .unset, .unset, .unset, .unset, .unset, .unset, .unset, .unset, .unset] [(.int (((p1.toUInt32 >>> ((8 : Int32) &&& 31).toUInt32).toInt32) &&& (1 : Int32)))])) tt_ → Steps p.tables e below (s₁.setTop (entryFrame m #[(.int p1), (.int p2), (.int p3), (.int p4), (.int p5), (.int p6)] maxLocals)) tt_ := fun tt_ kk_ => pre1 tt_ (by
    show Steps p.tables e below (s₁.setTop (mkF m 7 #[.val (.int p1), .val (.int p2), .val (.int p3), .val (.int p4), .val (.int p5), .val (.int p6), .unset, .unset, .unset, .unset, .unset, .unset, .unset, .unset, .unset, .unset, .unset, .unset, .unset, .unset] [(.int s1)])) _
    refine XS.istore X0.here hx rfl (hb hby at_7) rfl (l' := #[.val (.int p1), .val (.int p2), .val (.int p3), .val (.int p4), .val (.int p5), .val (.int p6), .val (.int s1), .unset, .unset, .unset, .unset, .unset, .unset, .unset, .unset, .unset, .unset, .unset, .unset, .unset]) rfl ?_
    show Steps p.tables e below (s₁.setTop (mkF m 9 #[.val (.int p1), .val (.int p2), .val (.int p3), .val (.int p4), .val (.int p5), .val (.int p6), .val (.int s1), .unset, .unset, .unset, .unset, .unset, .unset, .unset, .unset, .unset, .unset, .unset, .unset, .unset] [])) _
    refine XS.iloadN X0.here hx rfl (hb hby at_9) rfl ?_
    show Steps p.tables e below (s₁.setTop (mkF m 10 #[.val (.int p1), .val (.int p2), .val (.int p3), .val (.int p4), .val (.int p5), .val (.int p6), .val (.int s1), .unset, .unset, .unset, .unset, .unset, .unset, .unset, .unset, .unset, .unset, .unset, .unset, .unset] [(.int p1)])) _
    refine XS.bipush X0.here hx rfl (hb hby at_10) ?_
    show Steps p.tables e below (s₁.setTop (mkF m 12 #[.val (.int p1), .val (.int p2), .val (.int p3), .val (.int p4), .val (.int p5), .val (.int p6), .val (.int s1), .unset, .unset, .unset, .unset, .unset, .unset, .unset, .unset, .unset, .unset, .unset, .unset, .unset] [(.int (8 : Int32)), (.int p1)])) _
    refine XS.iushr X0.here hx rfl (hb hby at_12) rfl ?_
    show Steps p.tables e below (s₁.setTop (mkF m 13 #[.val (.int p1), .val (.int p2), .val (.int p3), .val (.int p4), .val (.int p5), .val (.int p6), .val (.int s1), .unset, .unset, .unset, .unset, .unset, .unset, .unset, .unset, .unset, .unset, .unset, .unset, .unset] [(.int ((p1.toUInt32 >>> ((8 : Int32) &&& 31).toUInt32).toInt32))])) _
    refine XS.iconst X0.here hx rfl (hb hby at_13) ?_
    show Steps p.tables e below (s₁.setTop (mkF m 14 #[.val (.int p1), .val (.int p2), .val (.int p3), .val (.int p4), .val (.int p5), .val (.int p6), .val (.int s1), .unset, .unset, .unset, .unset, .unset, .unset, .unset, .unset, .unset, .unset, .unset, .unset, .unset] [(.int (1 : Int32)), (.int ((p1.toUInt32 >>> ((8 : Int32) &&& 31).toUInt32).toInt32))])) _
    refine XS.iand X0.here hx rfl (hb hby at_14) rfl ?_
    exact kk_)
  obtain ⟨t1, h_t1⟩ : ∃ z : Int32, z = (((p1.toUInt32 >>> ((8 : Int32) &&& 31).toUInt32).toInt32) &&& (1 : Int32)) := ⟨_, rfl⟩
  rw [← h_t1] at pre2
  rw [← h_t1] at ht1
  have hs2 := own_m3 ((p1.toUInt32 >>> ((9 : Int32) &&& 31).toUInt32).toInt32)
  have pre3 : ∀ tt_, Steps p.tables e below (s₁.setTop (mkF m 27 #[.val (.int p1), .val (.int p2), .val (.int p3), .val (.int p4), .val (.int p5), .val (.int p6), .val (.int s1), .val (.int t1), .unset, .unset, .unset, .unset, .unset, .unset, .unset, .unset, .unset, .unset, .unset, .unset] [(.int ((((p1.toUInt32 >>> ((9 : Int32) &&& 31).toUInt32).toInt32) &&& (255 : Int32)) % (3 : Int32)))])) tt_ → Steps p.tables e below (s₁.setTop (entryFrame m #[(.int p1), (.int p2), (.int p3), (.int p4), (.int p5), (.int p6)] maxLocals)) tt_ := fun tt_ kk_ => pre2 tt_ (by
    show Steps p.tables e below (s₁.setTop (mkF m 15 #[.val (.int p1), .val (.int p2), .val (.int p3), .val (.int p4), .val (.int p5), .val (.int p6), .val (.int s1), .unset, .unset, .unset, .unset, .unset, .unset, .unset, .unset, .unset, .unset, .unset, .unset, .unset] [(.int t1)])) _
    refine XS.istore X0.here hx rfl (hb hby at_15) rfl (l' := #[.val (.int p1), .val (.int p2), .val (.int p3), .val (.int p4), .val (.int p5), .val (.int p6), .val (.int s1), .val (.int t1), .unset, .unset, .unset, .unset, .unset, .unset, .unset, .unset, .unset, .unset, .unset, .unset]) rfl ?_
    show Steps p.tables e below (s₁.setTop (mkF m 17 #[.val (.int p1), .val (.int p2), .val (.int p3), .val (.int p4), .val (.int p5), .val (.int p6), .val (.int s1), .val (.int t1), .unset, .unset, .unset, .unset, .unset, .unset, .unset, .unset, .unset, .unset, .unset, .unset] [])) _
    refine XS.iloadN X0.here hx rfl (hb hby at_17) rfl ?_
    show Steps p.tables e below (s₁.setTop (mkF m 18 #[.val (.int p1), .val (.int p2), .val (.int p3), .val (.int p4), .val (.int p5), .val (.int p6), .val (.int s1), .val (.int t1), .unset, .unset, .unset, .unset, .unset, .unset, .unset, .unset, .unset, .unset, .unset, .unset] [(.int p1)])) _
    refine XS.bipush X0.here hx rfl (hb hby at_18) ?_
    show Steps p.tables e below (s₁.setTop (mkF m 20 #[.val (.int p1), .val (.int p2), .val (.int p3), .val (.int p4), .val (.int p5), .val (.int p6), .val (.int s1), .val (.int t1), .unset, .unset, .unset, .unset, .unset, .unset, .unset, .unset, .unset, .unset, .unset, .unset] [(.int (9 : Int32)), (.int p1)])) _
    refine XS.iushr X0.here hx rfl (hb hby at_20) rfl ?_
    show Steps p.tables e below (s₁.setTop (mkF m 21 #[.val (.int p1), .val (.int p2), .val (.int p3), .val (.int p4), .val (.int p5), .val (.int p6), .val (.int s1), .val (.int t1), .unset, .unset, .unset, .unset, .unset, .unset, .unset, .unset, .unset, .unset, .unset, .unset] [(.int ((p1.toUInt32 >>> ((9 : Int32) &&& 31).toUInt32).toInt32))])) _
    refine XS.sipush X0.here hx rfl (hb hby at_21) ?_
    show Steps p.tables e below (s₁.setTop (mkF m 24 #[.val (.int p1), .val (.int p2), .val (.int p3), .val (.int p4), .val (.int p5), .val (.int p6), .val (.int s1), .val (.int t1), .unset, .unset, .unset, .unset, .unset, .unset, .unset, .unset, .unset, .unset, .unset, .unset] [(.int (255 : Int32)), (.int ((p1.toUInt32 >>> ((9 : Int32) &&& 31).toUInt32).toInt32))])) _
    refine XS.iand X0.here hx rfl (hb hby at_24) rfl ?_
    show Steps p.tables e below (s₁.setTop (mkF m 25 #[.val (.int p1), .val (.int p2), .val (.int p3), .val (.int p4), .val (.int p5), .val (.int p6), .val (.int s1), .val (.int t1), .unset, .unset, .unset, .unset, .unset, .unset, .unset, .unset, .unset, .unset, .unset, .unset] [(.int (((p1.toUInt32 >>> ((9 : Int32) &&& 31).toUInt32).toInt32) &&& (255 : Int32)))])) _
    refine XS.iconst X0.here hx rfl (hb hby at_25) ?_
    show Steps p.tables e below (s₁.setTop (mkF m 26 #[.val (.int p1), .val (.int p2), .val (.int p3), .val (.int p4), .val (.int p5), .val (.int p6), .val (.int s1), .val (.int t1), .unset, .unset, .unset, .unset, .unset, .unset, .unset, .unset, .unset, .unset, .unset, .unset] [(.int (3 : Int32)), (.int (((p1.toUInt32 >>> ((9 : Int32) &&& 31).toUInt32).toInt32) &&& (255 : Int32)))])) _
    refine iremM X0 hx rfl (hb hby at_26) rfl (by decide) ?_
    exact kk_)
  obtain ⟨s2, h_s2⟩ : ∃ z : Int32, z = ((((p1.toUInt32 >>> ((9 : Int32) &&& 31).toUInt32).toInt32) &&& (255 : Int32)) % (3 : Int32)) := ⟨_, rfl⟩
  rw [← h_s2] at pre3
  rw [← h_s2] at hs2
  have ht2 := and_one ((p1.toUInt32 >>> ((17 : Int32) &&& 31).toUInt32).toInt32)
  have pre4 : ∀ tt_, Steps p.tables e below (s₁.setTop (mkF m 35 #[.val (.int p1), .val (.int p2), .val (.int p3), .val (.int p4), .val (.int p5), .val (.int p6), .val (.int s1), .val (.int t1), .val (.int s2), .unset, .unset, .unset, .unset, .unset, .unset, .unset, .unset, .unset, .unset, .unset] [(.int (((p1.toUInt32 >>> ((17 : Int32) &&& 31).toUInt32).toInt32) &&& (1 : Int32)))])) tt_ → Steps p.tables e below (s₁.setTop (entryFrame m #[(.int p1), (.int p2), (.int p3), (.int p4), (.int p5), (.int p6)] maxLocals)) tt_ := fun tt_ kk_ => pre3 tt_ (by
    show Steps p.tables e below (s₁.setTop (mkF m 27 #[.val (.int p1), .val (.int p2), .val (.int p3), .val (.int p4), .val (.int p5), .val (.int p6), .val (.int s1), .val (.int t1), .unset, .unset, .unset, .unset, .unset, .unset, .unset, .unset, .unset, .unset, .unset, .unset] [(.int s2)])) _
    refine XS.istore X0.here hx rfl (hb hby at_27) rfl (l' := #[.val (.int p1), .val (.int p2), .val (.int p3), .val (.int p4), .val (.int p5), .val (.int p6), .val (.int s1), .val (.int t1), .val (.int s2), .unset, .unset, .unset, .unset, .unset, .unset, .unset, .unset, .unset, .unset, .unset]) rfl ?_
    show Steps p.tables e below (s₁.setTop (mkF m 29 #[.val (.int p1), .val (.int p2), .val (.int p3), .val (.int p4), .val (.int p5), .val (.int p6), .val (.int s1), .val (.int t1), .val (.int s2), .unset, .unset, .unset, .unset, .unset, .unset, .unset, .unset, .unset, .unset, .unset] [])) _
    refine XS.iloadN X0.here hx rfl (hb hby at_29) rfl ?_
    show Steps p.tables e below (s₁.setTop (mkF m 30 #[.val (.int p1), .val (.int p2), .val (.int p3), .val (.int p4), .val (.int p5), .val (.int p6), .val (.int s1), .val (.int t1), .val (.int s2), .unset, .unset, .unset, .unset, .unset, .unset, .unset, .unset, .unset, .unset, .unset] [(.int p1)])) _
    refine XS.bipush X0.here hx rfl (hb hby at_30) ?_
    show Steps p.tables e below (s₁.setTop (mkF m 32 #[.val (.int p1), .val (.int p2), .val (.int p3), .val (.int p4), .val (.int p5), .val (.int p6), .val (.int s1), .val (.int t1), .val (.int s2), .unset, .unset, .unset, .unset, .unset, .unset, .unset, .unset, .unset, .unset, .unset] [(.int (17 : Int32)), (.int p1)])) _
    refine XS.iushr X0.here hx rfl (hb hby at_32) rfl ?_
    show Steps p.tables e below (s₁.setTop (mkF m 33 #[.val (.int p1), .val (.int p2), .val (.int p3), .val (.int p4), .val (.int p5), .val (.int p6), .val (.int s1), .val (.int t1), .val (.int s2), .unset, .unset, .unset, .unset, .unset, .unset, .unset, .unset, .unset, .unset, .unset] [(.int ((p1.toUInt32 >>> ((17 : Int32) &&& 31).toUInt32).toInt32))])) _
    refine XS.iconst X0.here hx rfl (hb hby at_33) ?_
    show Steps p.tables e below (s₁.setTop (mkF m 34 #[.val (.int p1), .val (.int p2), .val (.int p3), .val (.int p4), .val (.int p5), .val (.int p6), .val (.int s1), .val (.int t1), .val (.int s2), .unset, .unset, .unset, .unset, .unset, .unset, .unset, .unset, .unset, .unset, .unset] [(.int (1 : Int32)), (.int ((p1.toUInt32 >>> ((17 : Int32) &&& 31).toUInt32).toInt32))])) _
    refine XS.iand X0.here hx rfl (hb hby at_34) rfl ?_
    exact kk_)
  obtain ⟨t2, h_t2⟩ : ∃ z : Int32, z = (((p1.toUInt32 >>> ((17 : Int32) &&& 31).toUInt32).toInt32) &&& (1 : Int32)) := ⟨_, rfl⟩
  rw [← h_t2] at pre4
  rw [← h_t2] at ht2
  have pre5 : ∀ tt_, Steps p.tables e below (s₁.setTop (mkF m 43 #[.val (.int p1), .val (.int p2), .val (.int p3), .val (.int p4), .val (.int p5), .val (.int p6), .val (.int s1), .val (.int t1), .val (.int s2), .val (.int t2), .unset, .unset, .unset, .unset, .unset, .unset, .unset, .unset, .unset, .unset] [(.int (((p1.toUInt32 >>> ((18 : Int32) &&& 31).toUInt32).toInt32) &&& (1 : Int32)))])) tt_ → Steps p.tables e below (s₁.setTop (entryFrame m #[(.int p1), (.int p2), (.int p3), (.int p4), (.int p5), (.int p6)] maxLocals)) tt_ := fun tt_ kk_ => pre4 tt_ (by
    show Steps p.tables e below (s₁.setTop (mkF m 35 #[.val (.int p1), .val (.int p2), .val (.int p3), .val (.int p4), .val (.int p5), .val (.int p6), .val (.int s1), .val (.int t1), .val (.int s2), .unset, .unset, .unset, .unset, .unset, .unset, .unset, .unset, .unset, .unset, .unset] [(.int t2)])) _
    refine XS.istore X0.here hx rfl (hb hby at_35) rfl (l' := #[.val (.int p1), .val (.int p2), .val (.int p3), .val (.int p4), .val (.int p5), .val (.int p6), .val (.int s1), .val (.int t1), .val (.int s2), .val (.int t2), .unset, .unset, .unset, .unset, .unset, .unset, .unset, .unset, .unset, .unset]) rfl ?_
    show Steps p.tables e below (s₁.setTop (mkF m 37 #[.val (.int p1), .val (.int p2), .val (.int p3), .val (.int p4), .val (.int p5), .val (.int p6), .val (.int s1), .val (.int t1), .val (.int s2), .val (.int t2), .unset, .unset, .unset, .unset, .unset, .unset, .unset, .unset, .unset, .unset] [])) _
    refine XS.iloadN X0.here hx rfl (hb hby at_37) rfl ?_
    show Steps p.tables e below (s₁.setTop (mkF m 38 #[.val (.int p1), .val (.int p2), .val (.int p3), .val (.int p4), .val (.int p5), .val (.int p6), .val (.int s1), .val (.int t1), .val (.int s2), .val (.int t2), .unset, .unset, .unset, .unset, .unset, .unset, .unset, .unset, .unset, .unset] [(.int p1)])) _
    refine XS.bipush X0.here hx rfl (hb hby at_38) ?_
    show Steps p.tables e below (s₁.setTop (mkF m 40 #[.val (.int p1), .val (.int p2), .val (.int p3), .val (.int p4), .val (.int p5), .val (.int p6), .val (.int s1), .val (.int t1), .val (.int s2), .val (.int t2), .unset, .unset, .unset, .unset, .unset, .unset, .unset, .unset, .unset, .unset] [(.int (18 : Int32)), (.int p1)])) _
    refine XS.iushr X0.here hx rfl (hb hby at_40) rfl ?_
    show Steps p.tables e below (s₁.setTop (mkF m 41 #[.val (.int p1), .val (.int p2), .val (.int p3), .val (.int p4), .val (.int p5), .val (.int p6), .val (.int s1), .val (.int t1), .val (.int s2), .val (.int t2), .unset, .unset, .unset, .unset, .unset, .unset, .unset, .unset, .unset, .unset] [(.int ((p1.toUInt32 >>> ((18 : Int32) &&& 31).toUInt32).toInt32))])) _
    refine XS.iconst X0.here hx rfl (hb hby at_41) ?_
    show Steps p.tables e below (s₁.setTop (mkF m 42 #[.val (.int p1), .val (.int p2), .val (.int p3), .val (.int p4), .val (.int p5), .val (.int p6), .val (.int s1), .val (.int t1), .val (.int s2), .val (.int t2), .unset, .unset, .unset, .unset, .unset, .unset, .unset, .unset, .unset, .unset] [(.int (1 : Int32)), (.int ((p1.toUInt32 >>> ((18 : Int32) &&& 31).toUInt32).toInt32))])) _
    refine XS.iand X0.here hx rfl (hb hby at_42) rfl ?_
    exact kk_)
  obtain ⟨sd, dd, pre8⟩ : ∃ (sd : Int32) (dd : Int32), ∀ tt_, Steps p.tables e below (s₁.setTop (mkF m 63 #[.val (.int p1), .val (.int p2), .val (.int p3), .val (.int p4), .val (.int p5), .val (.int p6), .val (.int s1), .val (.int t1), .val (.int s2), .val (.int t2), .val (.int sd), .unset, .unset, .unset, .unset, .unset, .unset, .unset, .unset, .unset] [(.int dd)])) tt_ → Steps p.tables e below (s₁.setTop (entryFrame m #[(.int p1), (.int p2), (.int p3), (.int p4), (.int p5), (.int p6)] maxLocals)) tt_ := by
    by_cases hsd : (((p1.toUInt32 >>> ((18 : Int32) &&& 31).toUInt32).toInt32) &&& (1 : Int32)) = (0 : Int32)
    · have pre6 : ∀ tt_, Steps p.tables e below (s₁.setTop (mkF m 63 #[.val (.int p1), .val (.int p2), .val (.int p3), .val (.int p4), .val (.int p5), .val (.int p6), .val (.int s1), .val (.int t1), .val (.int s2), .val (.int t2), .val (.int (0 : Int32)), .unset, .unset, .unset, .unset, .unset, .unset, .unset, .unset, .unset] [(.int p3)])) tt_ → Steps p.tables e below (s₁.setTop (entryFrame m #[(.int p1), (.int p2), (.int p3), (.int p4), (.int p5), (.int p6)] maxLocals)) tt_ := fun tt_ kk_ => pre5 tt_ (by
        show Steps p.tables e below (s₁.setTop (mkF m 43 #[.val (.int p1), .val (.int p2), .val (.int p3), .val (.int p4), .val (.int p5), .val (.int p6), .val (.int s1), .val (.int t1), .val (.int s2), .val (.int t2), .unset, .unset, .unset, .unset, .unset, .unset, .unset, .unset, .unset, .unset] [(.int (((p1.toUInt32 >>> ((18 : Int32) &&& 31).toUInt32).toInt32) &&& (1 : Int32)))])) _
        refine XS.ifYes X0.here hx rfl (pc0 := 43) (pc' := 50) rfl (hb hby at_43) rfl ((if0 _ _).trans (teq (hsd : (((p1.toUInt32 >>> ((18 : Int32) &&& 31).toUInt32).toInt32) &&& (1 : Int32)) = (0 : Int32))).1) (by decide) (by decide) ?_
        show Steps p.tables e below (s₁.setTop (mkF m 50 #[.val (.int p1), .val (.int p2), .val (.int p3), .val (.int p4), .val (.int p5), .val (.int p6), .val (.int s1), .val (.int t1), .val (.int s2), .val (.int t2), .unset, .unset, .unset, .unset, .unset, .unset, .unset, .unset, .unset, .unset] [])) _
        refine XS.iconst X0.here hx rfl (hb hby at_50) ?_
        show Steps p.tables e below (s₁.setTop (mkF m 51 #[.val (.int p1), .val (.int p2), .val (.int p3), .val (.int p4), .val (.int p5), .val (.int p6), .val (.int s1), .val (.int t1), .val (.int s2), .val (.int t2), .unset, .unset, .unset, .unset, .unset, .unset, .unset, .unset, .unset, .unset] [(.int (0 : Int32))])) _
        refine XS.istore X0.here hx rfl (hb hby at_51) rfl (l' := #[.val (.int p1), .val (.int p2), .val (.int p3), .val (.int p4), .val (.int p5), .val (.int p6), .val (.int s1), .val (.int t1), .val (.int s2), .val (.int t2), .val (.int (0 : Int32)), .unset, .unset, .unset, .unset, .unset, .unset, .unset, .unset, .unset]) rfl ?_
        show Steps p.tables e below (s₁.setTop (mkF m 53 #[.val (.int p1), .val (.int p2), .val (.int p3), .val (.int p4), .val (.int p5), .val (.int p6), .val (.int s1), .val (.int t1), .val (.int s2), .val (.int t2), .val (.int (0 : Int32)), .unset, .unset, .unset, .unset, .unset, .unset, .unset, .unset, .unset] [])) _
        refine XS.iload X0.here hx rfl (hb hby at_53) rfl ?_
        show Steps p.tables e below (s₁.setTop (mkF m 55 #[.val (.int p1), .val (.int p2), .val (.int p3), .val (.int p4), .val (.int p5), .val (.int p6), .val (.int s1), .val (.int t1), .val (.int s2), .val (.int t2), .val (.int (0 : Int32)), .unset, .unset, .unset, .unset, .unset, .unset, .unset, .unset, .unset] [(.int (0 : Int32))])) _
        refine XS.ifYes X0.here hx rfl (pc0 := 55) (pc' := 62) rfl (hb hby at_55) rfl ((if0 _ _).trans (teq ((by decide) : (0 : Int32) = (0 : Int32))).1) (by decide) (by decide) ?_
        show Steps p.tables e below (s₁.setTop (mkF m 62 #[.val (.int p1), .val (.int p2), .val (.int p3), .val (.int p4), .val (.int p5), .val (.int p6), .val (.int s1), .val (.int t1), .val (.int s2), .val (.int t2), .val (.int (0 : Int32)), .unset, .unset, .unset, .unset, .unset, .unset, .unset, .unset, .unset] [])) _
        refine XS.iloadN X0.here hx rfl (hb hby at_62) rfl ?_
        exact kk_)
      exact ⟨(0 : Int32), p3, pre6⟩
    · have pre7 : ∀ tt_, Steps p.tables e below (s₁.setTop (mkF m 63 #[.val (.int p1), .val (.int p2), .val (.int p3), .val (.int p4), .val (.int p5), .val (.int p6), .val (.int s1), .val (.int t1), .val (.int s2), .val (.int t2), .val (.int (1 : Int32)), .unset, .unset, .unset, .unset, .unset, .unset, .unset, .unset, .unset] [(.int p2)])) tt_ → Steps p.tables e below (s₁.setTop (entryFrame m #[(.int p1), (.int p2), (.int p3), (.int p4), (.int p5), (.int p6)] maxLocals)) tt_ := fun tt_ kk_ => pre5 tt_ (by
        show Steps p.tables e below (s₁.setTop (mkF m 43 #[.val (.int p1), .val (.int p2), .val (.int p3), .val (.int p4), .val (.int p5), .val (.int p6), .val (.int s1), .val (.int t1), .val (.int s2), .val (.int t2), .unset, .unset, .unset, .unset, .unset, .unset, .unset, .unset, .unset, .unset] [(.int (((p1.toUInt32 >>> ((18 : Int32) &&& 31).toUInt32).toInt32) &&& (1 : Int32)))])) _
        refine XS.ifNo X0.here hx rfl (hb hby at_43) rfl ((if0 _ _).trans (feq (hsd : ¬ ((((p1.toUInt32 >>> ((18 : Int32) &&& 31).toUInt32).toInt32) &&& (1 : Int32)) = (0 : Int32)))).1) ?_
        show Steps p.tables e below (s₁.setTop (mkF m 46 #[.val (.int p1), .val (.int p2), .val (.int p3), .val (.int p4), .val (.int p5), .val (.int p6), .val (.int s1), .val (.int t1), .val (.int s2), .val (.int t2), .unset, .unset, .unset, .unset, .unset, .unset, .unset, .unset, .unset, .unset] [])) _
        refine XS.iconst X0.here hx rfl (hb hby at_46) ?_
        show Steps p.tables e below (s₁.setTop (mkF m 47 #[.val (.int p1), .val (.int p2), .val (.int p3), .val (.int p4), .val (.int p5), .val (.int p6), .val (.int s1), .val (.int t1), .val (.int s2), .val (.int t2), .unset, .unset, .unset, .unset, .unset, .unset, .unset, .unset, .unset, .unset] [(.int (1 : Int32))])) _
        refine XS.goto X0.here hx rfl (pc0 := 47) (pc' := 51) rfl (hb hby at_47) (by decide) (by decide) ?_
        show Steps p.tables e below (s₁.setTop (mkF m 51 #[.val (.int p1), .val (.int p2), .val (.int p3), .val (.int p4), .val (.int p5), .val (.int p6), .val (.int s1), .val (.int t1), .val (.int s2), .val (.int t2), .unset, .unset, .unset, .unset, .unset, .unset, .unset, .unset, .unset, .unset] [(.int (1 : Int32))])) _
        refine XS.istore X0.here hx rfl (hb hby at_51) rfl (l' := #[.val (.int p1), .val (.int p2), .val (.int p3), .val (.int p4), .val (.int p5), .val (.int p6), .val (.int s1), .val (.int t1), .val (.int s2), .val (.int t2), .val (.int (1 : Int32)), .unset, .unset, .unset, .unset, .unset, .unset, .unset, .unset, .unset]) rfl ?_
        show Steps p.tables e below (s₁.setTop (mkF m 53 #[.val (.int p1), .val (.int p2), .val (.int p3), .val (.int p4), .val (.int p5), .val (.int p6), .val (.int s1), .val (.int t1), .val (.int s2), .val (.int t2), .val (.int (1 : Int32)), .unset, .unset, .unset, .unset, .unset, .unset, .unset, .unset, .unset] [])) _
        refine XS.iload X0.here hx rfl (hb hby at_53) rfl ?_
        show Steps p.tables e below (s₁.setTop (mkF m 55 #[.val (.int p1), .val (.int p2), .val (.int p3), .val (.int p4), .val (.int p5), .val (.int p6), .val (.int s1), .val (.int t1), .val (.int s2), .val (.int t2), .val (.int (1 : Int32)), .unset, .unset, .unset, .unset, .unset, .unset, .unset, .unset, .unset] [(.int (1 : Int32))])) _
        refine XS.ifNo X0.here hx rfl (hb hby at_55) rfl ((if0 _ _).trans (feq ((by decide) : ¬ ((1 : Int32) = (0 : Int32)))).1) ?_
        show Steps p.tables e below (s₁.setTop (mkF m 58 #[.val (.int p1), .val (.int p2), .val (.int p3), .val (.int p4), .val (.int p5), .val (.int p6), .val (.int s1), .val (.int t1), .val (.int s2), .val (.int t2), .val (.int (1 : Int32)), .unset, .unset, .unset, .unset, .unset, .unset, .unset, .unset, .unset] [])) _
        refine XS.iloadN X0.here hx rfl (hb hby at_58) rfl ?_
        show Steps p.tables e below (s₁.setTop (mkF m 59 #[.val (.int p1), .val (.int p2), .val (.int p3), .val (.int p4), .val (.int p5), .val (.int p6), .val (.int s1), .val (.int t1), .val (.int s2), .val (.int t2), .val (.int (1 : Int32)), .unset, .unset, .unset, .unset, .unset, .unset, .unset, .unset, .unset] [(.int p2)])) _
        refine XS.goto X0.here hx rfl (pc0 := 59) (pc' := 63) rfl (hb hby at_59) (by decide) (by decide) ?_
        exact kk_)
      exact ⟨(1 : Int32), p2, pre7⟩
  have hsq := own_m3 p6
  have pre9 : ∀ tt_, Steps p.tables e below (s₁.setTop (mkF m 73 #[.val (.int p1), .val (.int p2), .val (.int p3), .val (.int p4), .val (.int p5), .val (.int p6), .val (.int s1), .val (.int t1), .val (.int s2), .val (.int t2), .val (.int sd), .val (.int dd), .unset, .unset, .unset, .unset, .unset, .unset, .unset, .unset] [(.int ((p6 &&& (255 : Int32)) % (3 : Int32)))])) tt_ → Steps p.tables e below (s₁.setTop (entryFrame m #[(.int p1), (.int p2), (.int p3), (.int p4), (.int p5), (.int p6)] maxLocals)) tt_ := fun tt_ kk_ => pre8 tt_ (by
    show Steps p.tables e below (s₁.setTop (mkF m 63 #[.val (.int p1), .val (.int p2), .val (.int p3), .val (.int p4), .val (.int p5), .val (.int p6), .val (.int s1), .val (.int t1), .val (.int s2), .val (.int t2), .val (.int sd), .unset, .unset, .unset, .unset, .unset, .unset, .unset, .unset, .unset] [(.int dd)])) _
    refine XS.istore X0.here hx rfl (hb hby at_63) rfl (l' := #[.val (.int p1), .val (.int p2), .val (.int p3), .val (.int p4), .val (.int p5), .val (.int p6), .val (.int s1), .val (.int t1), .val (.int s2), .val (.int t2), .val (.int sd), .val (.int dd), .unset, .unset, .unset, .unset, .unset, .unset, .unset, .unset]) rfl ?_
    show Steps p.tables e below (s₁.setTop (mkF m 65 #[.val (.int p1), .val (.int p2), .val (.int p3), .val (.int p4), .val (.int p5), .val (.int p6), .val (.int s1), .val (.int t1), .val (.int s2), .val (.int t2), .val (.int sd), .val (.int dd), .unset, .unset, .unset, .unset, .unset, .unset, .unset, .unset] [])) _
    refine XS.iload X0.here hx rfl (hb hby at_65) rfl ?_
    show Steps p.tables e below (s₁.setTop (mkF m 67 #[.val (.int p1), .val (.int p2), .val (.int p3), .val (.int p4), .val (.int p5), .val (.int p6), .val (.int s1), .val (.int t1), .val (.int s2), .val (.int t2), .val (.int sd), .val (.int dd), .unset, .unset, .unset, .unset, .unset, .unset, .unset, .unset] [(.int p6)])) _
    refine XS.sipush X0.here hx rfl (hb hby at_67) ?_
    show Steps p.tables e below (s₁.setTop (mkF m 70 #[.val (.int p1), .val (.int p2), .val (.int p3), .val (.int p4), .val (.int p5), .val (.int p6), .val (.int s1), .val (.int t1), .val (.int s2), .val (.int t2), .val (.int sd), .val (.int dd), .unset, .unset, .unset, .unset, .unset, .unset, .unset, .unset] [(.int (255 : Int32)), (.int p6)])) _
    refine XS.iand X0.here hx rfl (hb hby at_70) rfl ?_
    show Steps p.tables e below (s₁.setTop (mkF m 71 #[.val (.int p1), .val (.int p2), .val (.int p3), .val (.int p4), .val (.int p5), .val (.int p6), .val (.int s1), .val (.int t1), .val (.int s2), .val (.int t2), .val (.int sd), .val (.int dd), .unset, .unset, .unset, .unset, .unset, .unset, .unset, .unset] [(.int (p6 &&& (255 : Int32)))])) _
    refine XS.iconst X0.here hx rfl (hb hby at_71) ?_
    show Steps p.tables e below (s₁.setTop (mkF m 72 #[.val (.int p1), .val (.int p2), .val (.int p3), .val (.int p4), .val (.int p5), .val (.int p6), .val (.int s1), .val (.int t1), .val (.int s2), .val (.int t2), .val (.int sd), .val (.int dd), .unset, .unset, .unset, .unset, .unset, .unset, .unset, .unset] [(.int (3 : Int32)), (.int (p6 &&& (255 : Int32)))])) _
    refine iremM X0 hx rfl (hb hby at_72) rfl (by decide) ?_
    exact kk_)
  obtain ⟨sq, h_sq⟩ : ∃ z : Int32, z = ((p6 &&& (255 : Int32)) % (3 : Int32)) := ⟨_, rfl⟩
  rw [← h_sq] at pre9
  rw [← h_sq] at hsq
  have pre10 : ∀ tt_, Steps p.tables e below (s₁.setTop (mkF m 82 #[.val (.int p1), .val (.int p2), .val (.int p3), .val (.int p4), .val (.int p5), .val (.int p6), .val (.int s1), .val (.int t1), .val (.int s2), .val (.int t2), .val (.int sd), .val (.int dd), .val (.int sq), .unset, .unset, .unset, .unset, .unset, .unset, .unset] [(.int (((p6.toUInt32 >>> ((8 : Int32) &&& 31).toUInt32).toInt32) &&& (3 : Int32)))])) tt_ → Steps p.tables e below (s₁.setTop (entryFrame m #[(.int p1), (.int p2), (.int p3), (.int p4), (.int p5), (.int p6)] maxLocals)) tt_ := fun tt_ kk_ => pre9 tt_ (by
    show Steps p.tables e below (s₁.setTop (mkF m 73 #[.val (.int p1), .val (.int p2), .val (.int p3), .val (.int p4), .val (.int p5), .val (.int p6), .val (.int s1), .val (.int t1), .val (.int s2), .val (.int t2), .val (.int sd), .val (.int dd), .unset, .unset, .unset, .unset, .unset, .unset, .unset, .unset] [(.int sq)])) _
    refine XS.istore X0.here hx rfl (hb hby at_73) rfl (l' := #[.val (.int p1), .val (.int p2), .val (.int p3), .val (.int p4), .val (.int p5), .val (.int p6), .val (.int s1), .val (.int t1), .val (.int s2), .val (.int t2), .val (.int sd), .val (.int dd), .val (.int sq), .unset, .unset, .unset, .unset, .unset, .unset, .unset]) rfl ?_
    show Steps p.tables e below (s₁.setTop (mkF m 75 #[.val (.int p1), .val (.int p2), .val (.int p3), .val (.int p4), .val (.int p5), .val (.int p6), .val (.int s1), .val (.int t1), .val (.int s2), .val (.int t2), .val (.int sd), .val (.int dd), .val (.int sq), .unset, .unset, .unset, .unset, .unset, .unset, .unset] [])) _
    refine XS.iload X0.here hx rfl (hb hby at_75) rfl ?_
    show Steps p.tables e below (s₁.setTop (mkF m 77 #[.val (.int p1), .val (.int p2), .val (.int p3), .val (.int p4), .val (.int p5), .val (.int p6), .val (.int s1), .val (.int t1), .val (.int s2), .val (.int t2), .val (.int sd), .val (.int dd), .val (.int sq), .unset, .unset, .unset, .unset, .unset, .unset, .unset] [(.int p6)])) _
    refine XS.bipush X0.here hx rfl (hb hby at_77) ?_
    show Steps p.tables e below (s₁.setTop (mkF m 79 #[.val (.int p1), .val (.int p2), .val (.int p3), .val (.int p4), .val (.int p5), .val (.int p6), .val (.int s1), .val (.int t1), .val (.int s2), .val (.int t2), .val (.int sd), .val (.int dd), .val (.int sq), .unset, .unset, .unset, .unset, .unset, .unset, .unset] [(.int (8 : Int32)), (.int p6)])) _
    refine XS.iushr X0.here hx rfl (hb hby at_79) rfl ?_
    show Steps p.tables e below (s₁.setTop (mkF m 80 #[.val (.int p1), .val (.int p2), .val (.int p3), .val (.int p4), .val (.int p5), .val (.int p6), .val (.int s1), .val (.int t1), .val (.int s2), .val (.int t2), .val (.int sd), .val (.int dd), .val (.int sq), .unset, .unset, .unset, .unset, .unset, .unset, .unset] [(.int ((p6.toUInt32 >>> ((8 : Int32) &&& 31).toUInt32).toInt32))])) _
    refine XS.iconst X0.here hx rfl (hb hby at_80) ?_
    show Steps p.tables e below (s₁.setTop (mkF m 81 #[.val (.int p1), .val (.int p2), .val (.int p3), .val (.int p4), .val (.int p5), .val (.int p6), .val (.int s1), .val (.int t1), .val (.int s2), .val (.int t2), .val (.int sd), .val (.int dd), .val (.int sq), .unset, .unset, .unset, .unset, .unset, .unset, .unset] [(.int (3 : Int32)), (.int ((p6.toUInt32 >>> ((8 : Int32) &&& 31).toUInt32).toInt32))])) _
    refine XS.iand X0.here hx rfl (hb hby at_81) rfl ?_
    exact kk_)
  obtain ⟨sel, h_sel⟩ : ∃ z : Int32, z = (((p6.toUInt32 >>> ((8 : Int32) &&& 31).toUInt32).toInt32) &&& (3 : Int32)) := ⟨_, rfl⟩
  rw [← h_sel] at pre10
  have pre11 : ∀ tt_, Steps p.tables e below (s₁.setTop (mkF m 86 #[.val (.int p1), .val (.int p2), .val (.int p3), .val (.int p4), .val (.int p5), .val (.int p6), .val (.int s1), .val (.int t1), .val (.int s2), .val (.int t2), .val (.int sd), .val (.int dd), .val (.int sq), .val (.int sel), .unset, .unset, .unset, .unset, .unset, .unset] [(.int sel)])) tt_ → Steps p.tables e below (s₁.setTop (entryFrame m #[(.int p1), (.int p2), (.int p3), (.int p4), (.int p5), (.int p6)] maxLocals)) tt_ := fun tt_ kk_ => pre10 tt_ (by
    show Steps p.tables e below (s₁.setTop (mkF m 82 #[.val (.int p1), .val (.int p2), .val (.int p3), .val (.int p4), .val (.int p5), .val (.int p6), .val (.int s1), .val (.int t1), .val (.int s2), .val (.int t2), .val (.int sd), .val (.int dd), .val (.int sq), .unset, .unset, .unset, .unset, .unset, .unset, .unset] [(.int sel)])) _
    refine XS.istore X0.here hx rfl (hb hby at_82) rfl (l' := #[.val (.int p1), .val (.int p2), .val (.int p3), .val (.int p4), .val (.int p5), .val (.int p6), .val (.int s1), .val (.int t1), .val (.int s2), .val (.int t2), .val (.int sd), .val (.int dd), .val (.int sq), .val (.int sel), .unset, .unset, .unset, .unset, .unset, .unset]) rfl ?_
    show Steps p.tables e below (s₁.setTop (mkF m 84 #[.val (.int p1), .val (.int p2), .val (.int p3), .val (.int p4), .val (.int p5), .val (.int p6), .val (.int s1), .val (.int t1), .val (.int s2), .val (.int t2), .val (.int sd), .val (.int dd), .val (.int sq), .val (.int sel), .unset, .unset, .unset, .unset, .unset, .unset] [])) _
    refine XS.iload X0.here hx rfl (hb hby at_84) rfl ?_
    exact kk_)
  obtain ⟨dq, pre18⟩ : ∃ (dq : Int32), ∀ tt_, Steps p.tables e below (s₁.setTop (mkF m 123 #[.val (.int p1), .val (.int p2), .val (.int p3), .val (.int p4), .val (.int p5), .val (.int p6), .val (.int s1), .val (.int t1), .val (.int s2), .val (.int t2), .val (.int sd), .val (.int dd), .val (.int sq), .val (.int sel), .val (.int dq), .unset, .unset, .unset, .unset, .unset] [])) tt_ → Steps p.tables e below (s₁.setTop (entryFrame m #[(.int p1), (.int p2), (.int p3), (.int p4), (.int p5), (.int p6)] maxLocals)) tt_ := by
    by_cases g0 : sel = (0 : Int32)
    · have pre12 : ∀ tt_, Steps p.tables e below (s₁.setTop (mkF m 123 #[.val (.int p1), .val (.int p2), .val (.int p3), .val (.int p4), .val (.int p5), .val (.int p6), .val (.int s1), .val (.int t1), .val (.int s2), .val (.int t2), .val (.int sd), .val (.int dd), .val (.int sq), .val (.int sel), .val (.int p2), .unset, .unset, .unset, .unset, .unset] [])) tt_ → Steps p.tables e below (s₁.setTop (entryFrame m #[(.int p1), (.int p2), (.int p3), (.int p4), (.int p5), (.int p6)] maxLocals)) tt_ := fun tt_ kk_ => pre11 tt_ (by
        show Steps p.tables e below (s₁.setTop (mkF m 86 #[.val (.int p1), .val (.int p2), .val (.int p3), .val (.int p4), .val (.int p5), .val (.int p6), .val (.int s1), .val (.int t1), .val (.int s2), .val (.int t2), .val (.int sd), .val (.int dd), .val (.int sq), .val (.int sel), .unset, .unset, .unset, .unset, .unset, .unset] [(.int sel)])) _
        refine XS.ifNo X0.here hx rfl (hb hby at_86) rfl ((if0 _ _).trans (teq (g0 : sel = (0 : Int32))).2) ?_
        show Steps p.tables e below (s₁.setTop (mkF m 89 #[.val (.int p1), .val (.int p2), .val (.int p3), .val (.int p4), .val (.int p5), .val (.int p6), .val (.int s1), .val (.int t1), .val (.int s2), .val (.int t2), .val (.int sd), .val (.int dd), .val (.int sq), .val (.int sel), .unset, .unset, .unset, .unset, .unset, .unset] [])) _
        refine XS.iloadN X0.here hx rfl (hb hby at_89) rfl ?_
        show Steps p.tables e below (s₁.setTop (mkF m 90 #[.val (.int p1), .val (.int p2), .val (.int p3), .val (.int p4), .val (.int p5), .val (.int p6), .val (.int s1), .val (.int t1), .val (.int s2), .val (.int t2), .val (.int sd), .val (.int dd), .val (.int sq), .val (.int sel), .unset, .unset, .unset, .unset, .unset, .unset] [(.int p2)])) _
        refine XS.istore X0.here hx rfl (hb hby at_90) rfl (l' := #[.val (.int p1), .val (.int p2), .val (.int p3), .val (.int p4), .val (.int p5), .val (.int p6), .val (.int s1), .val (.int t1), .val (.int s2), .val (.int t2), .val (.int sd), .val (.int dd), .val (.int sq), .val (.int sel), .val (.int p2), .unset, .unset, .unset, .unset, .unset]) rfl ?_
        show Steps p.tables e below (s₁.setTop (mkF m 92 #[.val (.int p1), .val (.int p2), .val (.int p3), .val (.int p4), .val (.int p5), .val (.int p6), .val (.int s1), .val (.int t1), .val (.int s2), .val (.int t2), .val (.int sd), .val (.int dd), .val (.int sq), .val (.int sel), .val (.int p2), .unset, .unset, .unset, .unset, .unset] [])) _
        refine XS.goto X0.here hx rfl (pc0 := 92) (pc' := 123) rfl (hb hby at_92) (by decide) (by decide) ?_
        exact kk_)
      exact ⟨p2, pre12⟩
    · have pre13 : ∀ tt_, Steps p.tables e below (s₁.setTop (mkF m 98 #[.val (.int p1), .val (.int p2), .val (.int p3), .val (.int p4), .val (.int p5), .val (.int p6), .val (.int s1), .val (.int t1), .val (.int s2), .val (.int t2), .val (.int sd), .val (.int dd), .val (.int sq), .val (.int sel), .unset, .unset, .unset, .unset, .unset, .unset] [(.int (1 : Int32)), (.int sel)])) tt_ → Steps p.tables e below (s₁.setTop (entryFrame m #[(.int p1), (.int p2), (.int p3), (.int p4), (.int p5), (.int p6)] maxLocals)) tt_ := fun tt_ kk_ => pre11 tt_ (by
        show Steps p.tables e below (s₁.setTop (mkF m 86 #[.val (.int p1), .val (.int p2), .val (.int p3), .val (.int p4), .val (.int p5), .val (.int p6), .val (.int s1), .val (.int t1), .val (.int s2), .val (.int t2), .val (.int sd), .val (.int dd), .val (.int sq), .val (.int sel), .unset, .unset, .unset, .unset, .unset, .unset] [(.int sel)])) _
        refine XS.ifYes X0.here hx rfl (pc0 := 86) (pc' := 95) rfl (hb hby at_86) rfl ((if0 _ _).trans (feq (g0 : ¬ (sel = (0 : Int32)))).2) (by decide) (by decide) ?_
        show Steps p.tables e below (s₁.setTop (mkF m 95 #[.val (.int p1), .val (.int p2), .val (.int p3), .val (.int p4), .val (.int p5), .val (.int p6), .val (.int s1), .val (.int t1), .val (.int s2), .val (.int t2), .val (.int sd), .val (.int dd), .val (.int sq), .val (.int sel), .unset, .unset, .unset, .unset, .unset, .unset] [])) _
        refine XS.iload X0.here hx rfl (hb hby at_95) rfl ?_
        show Steps p.tables e below (s₁.setTop (mkF m 97 #[.val (.int p1), .val (.int p2), .val (.int p3), .val (.int p4), .val (.int p5), .val (.int p6), .val (.int s1), .val (.int t1), .val (.int s2), .val (.int t2), .val (.int sd), .val (.int dd), .val (.int sq), .val (.int sel), .unset, .unset, .unset, .unset, .unset, .unset] [(.int sel)])) _
        refine XS.iconst X0.here hx rfl (hb hby at_97) ?_
        exact kk_)
      by_cases g1 : sel = (1 : Int32)
      · have pre14 : ∀ tt_, Steps p.tables e below (s₁.setTop (mkF m 123 #[.val (.int p1), .val (.int p2), .val (.int p3), .val (.int p4), .val (.int p5), .val (.int p6), .val (.int s1), .val (.int t1), .val (.int s2), .val (.int t2), .val (.int sd), .val (.int dd), .val (.int sq), .val (.int sel), .val (.int dd), .unset, .unset, .unset, .unset, .unset] [])) tt_ → Steps p.tables e below (s₁.setTop (entryFrame m #[(.int p1), (.int p2), (.int p3), (.int p4), (.int p5), (.int p6)] maxLocals)) tt_ := fun tt_ kk_ => pre13 tt_ (by
          show Steps p.tables e below (s₁.setTop (mkF m 98 #[.val (.int p1), .val (.int p2), .val (.int p3), .val (.int p4), .val (.int p5), .val (.int p6), .val (.int s1), .val (.int t1), .val (.int s2), .val (.int t2), .val (.int sd), .val (.int dd), .val (.int sq), .val (.int sel), .unset, .unset, .unset, .unset, .unset, .unset] [(.int (1 : Int32)), (.int sel)])) _
          refine XS.icmpNo X0.here hx rfl (hb hby at_98) rfl (teq (g1 : sel = (1 : Int32))).2 ?_
          show Steps p.tables e below (s₁.setTop (mkF m 101 #[.val (.int p1), .val (.int p2), .val (.int p3), .val (.int p4), .val (.int p5), .val (.int p6), .val (.int s1), .val (.int t1), .val (.int s2), .val (.int t2), .val (.int sd), .val (.int dd), .val (.int sq), .val (.int sel), .unset, .unset, .unset, .unset, .unset, .unset] [])) _
          refine XS.iload X0.here hx rfl (hb hby at_101) rfl ?_
          show Steps p.tables e below (s₁.setTop (mkF m 103 #[.val (.int p1), .val (.int p2), .val (.int p3), .val (.int p4), .val (.int p5), .val (.int p6), .val (.int s1), .val (.int t1), .val (.int s2), .val (.int t2), .val (.int sd), .val (.int dd), .val (.int sq), .val (.int sel), .unset, .unset, .unset, .unset, .unset, .unset] [(.int dd)])) _
          refine XS.istore X0.here hx rfl (hb hby at_103) rfl (l' := #[.val (.int p1), .val (.int p2), .val (.int p3), .val (.int p4), .val (.int p5), .val (.int p6), .val (.int s1), .val (.int t1), .val (.int s2), .val (.int t2), .val (.int sd), .val (.int dd), .val (.int sq), .val (.int sel), .val (.int dd), .unset, .unset, .unset, .unset, .unset]) rfl ?_
          show Steps p.tables e below (s₁.setTop (mkF m 105 #[.val (.int p1), .val (.int p2), .val (.int p3), .val (.int p4), .val (.int p5), .val (.int p6), .val (.int s1), .val (.int t1), .val (.int s2), .val (.int t2), .val (.int sd), .val (.int dd), .val (.int sq), .val (.int sel), .val (.int dd), .unset, .unset, .unset, .unset, .unset] [])) _
          refine XS.goto X0.here hx rfl (pc0 := 105) (pc' := 123) rfl (hb hby at_105) (by decide) (by decide) ?_
          exact kk_)
        exact ⟨dd, pre14⟩
      · have pre15 : ∀ tt_, Steps p.tables e below (s₁.setTop (mkF m 111 #[.val (.int p1), .val (.int p2), .val (.int p3), .val (.int p4), .val (.int p5), .val (.int p6), .val (.int s1), .val (.int t1), .val (.int s2), .val (.int t2), .val (.int sd), .val (.int dd), .val (.int sq), .val (.int sel), .unset, .unset, .unset, .unset, .unset, .unset] [(.int (2 : Int32)), (.int sel)])) tt_ → Steps p.tables e below (s₁.setTop (entryFrame m #[(.int p1), (.int p2), (.int p3), (.int p4), (.int p5), (.int p6)] maxLocals)) tt_ := fun tt_ kk_ => pre13 tt_ (by
          show Steps p.tables e below (s₁.setTop (mkF m 98 #[.val (.int p1), .val (.int p2), .val (.int p3), .val (.int p4), .val (.int p5), .val (.int p6), .val (.int s1), .val (.int t1), .val (.int s2), .val (.int t2), .val (.int sd), .val (.int dd), .val (.int sq), .val (.int sel), .unset, .unset, .unset, .unset, .unset, .unset] [(.int (1 : Int32)), (.int sel)])) _
          refine XS.icmpYes X0.here hx rfl (pc0 := 98) (pc' := 108) rfl (hb hby at_98) rfl (feq (g1 : ¬ (sel = (1 : Int32)))).2 (by decide) (by decide) ?_
          show Steps p.tables e below (s₁.setTop (mkF m 108 #[.val (.int p1), .val (.int p2), .val (.int p3), .val (.int p4), .val (.int p5), .val (.int p6), .val (.int s1), .val (.int t1), .val (.int s2), .val (.int t2), .val (.int sd), .val (.int dd), .val (.int sq), .val (.int sel), .unset, .unset, .unset, .unset, .unset, .unset] [])) _
          refine XS.iload X0.here hx rfl (hb hby at_108) rfl ?_
          show Steps p.tables e below (s₁.setTop (mkF m 110 #[.val (.int p1), .val (.int p2), .val (.int p3), .val (.int p4), .val (.int p5), .val (.int p6), .val (.int s1), .val (.int t1), .val (.int s2), .val (.int t2), .val (.int sd), .val (.int dd), .val (.int sq), .val (.int sel), .unset, .unset, .unset, .unset, .unset, .unset] [(.int sel)])) _
          refine XS.iconst X0.here hx rfl (hb hby at_110) ?_
          exact kk_)
        by_cases g2 : sel = (2 : Int32)
        · have pre16 : ∀ tt_, Steps p.tables e below (s₁.setTop (mkF m 123 #[.val (.int p1), .val (.int p2), .val (.int p3), .val (.int p4), .val (.int p5), .val (.int p6), .val (.int s1), .val (.int t1), .val (.int s2), .val (.int t2), .val (.int sd), .val (.int dd), .val (.int sq), .val (.int sel), .val (.int (0 : Int32)), .unset, .unset, .unset, .unset, .unset] [])) tt_ → Steps p.tables e below (s₁.setTop (entryFrame m #[(.int p1), (.int p2), (.int p3), (.int p4), (.int p5), (.int p6)] maxLocals)) tt_ := fun tt_ kk_ => pre15 tt_ (by
            show Steps p.tables e below (s₁.setTop (mkF m 111 #[.val (.int p1), .val (.int p2), .val (.int p3), .val (.int p4), .val (.int p5), .val (.int p6), .val (.int s1), .val (.int t1), .val (.int s2), .val (.int t2), .val (.int sd), .val (.int dd), .val (.int sq), .val (.int sel), .unset, .unset, .unset, .unset, .unset, .unset] [(.int (2 : Int32)), (.int sel)])) _
            refine XS.icmpNo X0.here hx rfl (hb hby at_111) rfl (teq (g2 : sel = (2 : Int32))).2 ?_
            show Steps p.tables e below (s₁.setTop (mkF m 114 #[.val (.int p1), .val (.int p2), .val (.int p3), .val (.int p4), .val (.int p5), .val (.int p6), .val (.int s1), .val (.int t1), .val (.int s2), .val (.int t2), .val (.int sd), .val (.int dd), .val (.int sq), .val (.int sel), .unset, .unset, .unset, .unset, .unset, .unset] [])) _
            refine XS.iconst X0.here hx rfl (hb hby at_114) ?_
            show Steps p.tables e below (s₁.setTop (mkF m 115 #[.val (.int p1), .val (.int p2), .val (.int p3), .val (.int p4), .val (.int p5), .val (.int p6), .val (.int s1), .val (.int t1), .val (.int s2), .val (.int t2), .val (.int sd), .val (.int dd), .val (.int sq), .val (.int sel), .unset, .unset, .unset, .unset, .unset, .unset] [(.int (0 : Int32))])) _
            refine XS.istore X0.here hx rfl (hb hby at_115) rfl (l' := #[.val (.int p1), .val (.int p2), .val (.int p3), .val (.int p4), .val (.int p5), .val (.int p6), .val (.int s1), .val (.int t1), .val (.int s2), .val (.int t2), .val (.int sd), .val (.int dd), .val (.int sq), .val (.int sel), .val (.int (0 : Int32)), .unset, .unset, .unset, .unset, .unset]) rfl ?_
            show Steps p.tables e below (s₁.setTop (mkF m 117 #[.val (.int p1), .val (.int p2), .val (.int p3), .val (.int p4), .val (.int p5), .val (.int p6), .val (.int s1), .val (.int t1), .val (.int s2), .val (.int t2), .val (.int sd), .val (.int dd), .val (.int sq), .val (.int sel), .val (.int (0 : Int32)), .unset, .unset, .unset, .unset, .unset] [])) _
            refine XS.goto X0.here hx rfl (pc0 := 117) (pc' := 123) rfl (hb hby at_117) (by decide) (by decide) ?_
            exact kk_)
          exact ⟨(0 : Int32), pre16⟩
        · have pre17 : ∀ tt_, Steps p.tables e below (s₁.setTop (mkF m 123 #[.val (.int p1), .val (.int p2), .val (.int p3), .val (.int p4), .val (.int p5), .val (.int p6), .val (.int s1), .val (.int t1), .val (.int s2), .val (.int t2), .val (.int sd), .val (.int dd), .val (.int sq), .val (.int sel), .val (.int p3), .unset, .unset, .unset, .unset, .unset] [])) tt_ → Steps p.tables e below (s₁.setTop (entryFrame m #[(.int p1), (.int p2), (.int p3), (.int p4), (.int p5), (.int p6)] maxLocals)) tt_ := fun tt_ kk_ => pre15 tt_ (by
            show Steps p.tables e below (s₁.setTop (mkF m 111 #[.val (.int p1), .val (.int p2), .val (.int p3), .val (.int p4), .val (.int p5), .val (.int p6), .val (.int s1), .val (.int t1), .val (.int s2), .val (.int t2), .val (.int sd), .val (.int dd), .val (.int sq), .val (.int sel), .unset, .unset, .unset, .unset, .unset, .unset] [(.int (2 : Int32)), (.int sel)])) _
            refine XS.icmpYes X0.here hx rfl (pc0 := 111) (pc' := 120) rfl (hb hby at_111) rfl (feq (g2 : ¬ (sel = (2 : Int32)))).2 (by decide) (by decide) ?_
            show Steps p.tables e below (s₁.setTop (mkF m 120 #[.val (.int p1), .val (.int p2), .val (.int p3), .val (.int p4), .val (.int p5), .val (.int p6), .val (.int s1), .val (.int t1), .val (.int s2), .val (.int t2), .val (.int sd), .val (.int dd), .val (.int sq), .val (.int sel), .unset, .unset, .unset, .unset, .unset, .unset] [])) _
            refine XS.iloadN X0.here hx rfl (hb hby at_120) rfl ?_
            show Steps p.tables e below (s₁.setTop (mkF m 121 #[.val (.int p1), .val (.int p2), .val (.int p3), .val (.int p4), .val (.int p5), .val (.int p6), .val (.int s1), .val (.int t1), .val (.int s2), .val (.int t2), .val (.int sd), .val (.int dd), .val (.int sq), .val (.int sel), .unset, .unset, .unset, .unset, .unset, .unset] [(.int p3)])) _
            refine XS.istore X0.here hx rfl (hb hby at_121) rfl (l' := #[.val (.int p1), .val (.int p2), .val (.int p3), .val (.int p4), .val (.int p5), .val (.int p6), .val (.int s1), .val (.int t1), .val (.int s2), .val (.int t2), .val (.int sd), .val (.int dd), .val (.int sq), .val (.int sel), .val (.int p3), .unset, .unset, .unset, .unset, .unset]) rfl ?_
            exact kk_)
          exact ⟨p3, pre17⟩
  obtain ⟨T19, h19, X19, e19, E19, A19, D19, -, st19⟩ := newO X0 hx hZ hown (hw _ (List.mem_of_getElem? (i := 0) rfl)) (hw _ (List.mem_of_getElem? (i := 1) rfl)) (hw _ (List.mem_of_getElem? (i := 2) rfl)) e0 (g := (mkF m 123 #[.val (.int p1), .val (.int p2), .val (.int p3), .val (.int p4), .val (.int p5), .val (.int p6), .val (.int s1), .val (.int t1), .val (.int s2), .val (.int t2), .val (.int sd), .val (.int dd), .val (.int sq), .val (.int sel), .val (.int dq), .unset, .unset, .unset, .unset, .unset] [])) rfl (hb hby at_123) (by decide) (by decide)
  obtain ⟨b19, g19⟩ : ∃ z, z = h0.size := ⟨_, rfl⟩
  rw [← g19] at A19 D19 st19
  have g_b19 : n0 ≤ b19 := Nat.le_trans Z0 (Nat.le_of_eq g19.symm)
  have z19 : n0 ≤ h19.size := Nat.le_trans Z0 E19.1
  have F_slots_b19 : Fld Z h19 b19 "com/example/cranfield/cranfield/search/TermScores" "slots" "I" (.int (0 : Int32)) := D19 (Or.inr (hw _ (List.mem_of_getElem? (i := 10) rfl))) (ty := .int) (by decide)
  have F_scores_b19 : Fld Z h19 b19 "com/example/cranfield/cranfield/search/TermScores" "scores" "[D" .null := D19 (Or.inr (hw _ (List.mem_of_getElem? (i := 13) rfl))) (ty := (.array .double)) (by decide)
  have F_documents_b19 : Fld Z h19 b19 "com/example/cranfield/cranfield/search/TermScores" "documents" "[I" .null := D19 (Or.inr (hw _ (List.mem_of_getElem? (i := 16) rfl))) (ty := (.array .int)) (by decide)
  obtain ⟨_, _, ⟨T20, L20, k20, n20⟩, -, X20, ⟨Lc20, hQ20, l20, y20, z20⟩, st20⟩ := X19.specialBack hx (y := (⟨"com/example/cranfield/cranfield/search/TermScores", "<init>", "(II)V"⟩ : MethodName)) rfl hown (mvT hZ (hw _ (List.mem_of_getElem? (i := 3) rfl))) (mvT hZ (hw _ (List.mem_of_getElem? (i := 4) rfl))) (mvT hZ (hw _ (List.mem_of_getElem? (i := 5) rfl))) (by decide) (backOf (W := 1) (rmI l Z a0 hw []  b19 h19 n0 z19 A19 g_b19 F_slots_b19 F_scores_b19 F_documents_b19) hZ (hw _ (List.mem_of_getElem? (i := 5) rfl)) (hw _ (List.mem_of_getElem? (i := 2) rfl)) (by decide) (by decide)) (g := (mkF m 129 #[.val (.int p1), .val (.int p2), .val (.int p3), .val (.int p4), .val (.int p5), .val (.int p6), .val (.int s1), .val (.int t1), .val (.int s2), .val (.int t2), .val (.int sd), .val (.int dd), .val (.int sq), .val (.int sel), .val (.int dq), .unset, .unset, .unset, .unset, .unset] [(.int (3 : Int32)), (.int (2 : Int32)), (.ref b19), (.ref b19)])) rfl (by rw [hml]; rfl) (Steps.refl _) (a := b19) (argsL := [(.int (2 : Int32)), (.int (3 : Int32))]) (rest := [(.ref b19)]) (lenOf own_pd0 rfl) rfl (by show 2 * 0 + _ ≤ _; exact Nat.le_of_eq rfl) (hb hby at_129) (fun _ _ => ⟨rfl, e19, (by decide : 1 + 2 ≤ _), (by decide : 3 + 12 ≤ _)⟩)
  dsimp only [Pt.U, Pt.locs, Pt.cells, Pt.slots] at X20 l20 y20 z20 st20 hQ20
  subst l20 y20 z20
  obtain ⟨h20, e20⟩ : ∃ z, T20.heap = z := ⟨_, rfl⟩
  rw [e20] at hQ20
  obtain ⟨rfl, N20q, Kc20, sc20, k120, dc20, k220, gs20, gd20, nsd20, f120, f220, f320, as20, ad20⟩ := hQ20
  have N20 := Fr.app N0 N20q
  have X20_241 := A19.keep Kc20
  have z20 : n0 ≤ h20.size := Nat.le_trans z19 Kc20.1
  have ne_b19_sc20 : b19 ≠ sc20 := Nat.ne_of_lt (Nat.lt_of_lt_of_le (A19).lt gs20)
  have g_sc20 : n0 ≤ sc20 := Nat.le_trans z19 gs20
  have ne_b19_dc20 : b19 ≠ dc20 := Nat.ne_of_lt (Nat.lt_of_lt_of_le (A19).lt gd20)
  have g_dc20 : n0 ≤ dc20 := Nat.le_trans z19 gd20
  obtain ⟨cq21, kq21, q21a, q21b, q21c⟩ := isOf hZ e20 X20_241
  obtain ⟨_, _, ⟨T21, L21, k21, n21⟩, -, X21, ⟨Lc21, hQ21, l21, y21, z21⟩, st21⟩ := X20.virtualBack hx (y := (⟨"com/example/cranfield/cranfield/search/TermScores", "put", "(IIID)V"⟩ : MethodName)) (z := (⟨"com/example/cranfield/cranfield/search/TermScores", "put", "(IIID)V"⟩ : MethodName)) hown (mvT hZ (hw _ (List.mem_of_getElem? (i := 17) rfl))) (mvT hZ (hw _ (List.mem_of_getElem? (i := 18) rfl))) (notFace_of_selects (args := #[]) (mvT hZ (hw _ (List.mem_of_getElem? (i := 20) rfl)))) (mvT hZ (hw _ (List.mem_of_getElem? (i := 20) rfl))) (mvT hZ (hw _ (List.mem_of_getElem? (i := 19) rfl))) (by decide) (backOf (W := 0) (rmU l Z a0 hw []  b19 s1 t1 p2 (p4.toInt64) sc20 dc20 k120 k220 (3 : Int32) [] [] [(.double (FP.l2d (0 : Int64))), (.double (FP.l2d (0 : Int64))), (.double (FP.l2d (0 : Int64))), (.double (FP.l2d (0 : Int64))), (.double (FP.l2d (0 : Int64))), (.double (FP.l2d (0 : Int64)))] [(.int (0 : Int32)), (.int (0 : Int32)), (.int (0 : Int32)), (.int (0 : Int32)), (.int (0 : Int32)), (.int (0 : Int32))] h20 n0 z20 f120 f220 f320 as20 ad20 g_sc20 g_dc20 ne_b19_sc20 ne_b19_dc20 nsd20 (by rcases hs1 with q0 | q0 | q0 <;> rcases ht1 with q1 | q1 <;> rw [q0, q1] <;> decide)) hZ (hw _ (List.mem_of_getElem? (i := 21) rfl)) (hw _ (List.mem_of_getElem? (i := 2) rfl)) (by decide) (by decide)) q21a q21c (g := (mkF m 143 #[.val (.int p1), .val (.int p2), .val (.int p3), .val (.int p4), .val (.int p5), .val (.int p6), .val (.int s1), .val (.int t1), .val (.int s2), .val (.int t2), .val (.int sd), .val (.int dd), .val (.int sq), .val (.int sel), .val (.int dq), .val (.ref b19), .unset, .unset, .unset, .unset] [(.double (FP.l2d (p4.toInt64))), (.int p2), (.int t1), (.int s1), (.ref b19)])) rfl (by rw [hml]; rfl) (Steps.refl _) (argsL := [(.int s1), (.int t1), (.int p2), (.double (FP.l2d (p4.toInt64)))]) (rest := []) (lenOf own_pd1 rfl) rfl (by show 2 * 0 + _ ≤ _; exact Nat.le_of_eq rfl) (hb hby at_143) (fun _ _ => ⟨rfl, e20, (by decide : 3 + 0 ≤ _), (by decide : 15 + 0 ≤ _)⟩)
  dsimp only [Pt.U, Pt.locs, Pt.cells, Pt.slots] at X21 l21 y21 z21 st21 hQ21
  subst l21 y21 z21
  obtain ⟨h21, e21⟩ : ∃ z, T21.heap = z := ⟨_, rfl⟩
  rw [e21] at hQ21
  obtain ⟨rfl, N21q, Kc21, as21, ad21⟩ := hQ21
  have N21 := Fr.app N20 N21q
  have F21_255 := f120.keep Kc21 (ninS ne_b19_sc20 (ninS ne_b19_dc20 nin0))
  have F21_256 := f220.keep Kc21 (ninS ne_b19_sc20 (ninS ne_b19_dc20 nin0))
  have F21_257 := f320.keep Kc21 (ninS ne_b19_sc20 (ninS ne_b19_dc20 nin0))
  have X21_258 := X20_241.keep Kc21
  have z21 : n0 ≤ h21.size := Nat.le_trans z20 Kc21.1
  obtain ⟨cq22, kq22, q22a, q22b, q22c⟩ := isOf hZ e21 X21_258
  obtain ⟨_, _, ⟨T22, L22, k22, n22⟩, -, X22, ⟨Lc22, hQ22, l22, y22, z22⟩, st22⟩ := X21.virtualBack hx (y := (⟨"com/example/cranfield/cranfield/search/TermScores", "put", "(IIID)V"⟩ : MethodName)) (z := (⟨"com/example/cranfield/cranfield/search/TermScores", "put", "(IIID)V"⟩ : MethodName)) hown (mvT hZ (hw _ (List.mem_of_getElem? (i := 17) rfl))) (mvT hZ (hw _ (List.mem_of_getElem? (i := 18) rfl))) (notFace_of_selects (args := #[]) (mvT hZ (hw _ (List.mem_of_getElem? (i := 20) rfl)))) (mvT hZ (hw _ (List.mem_of_getElem? (i := 20) rfl))) (mvT hZ (hw _ (List.mem_of_getElem? (i := 19) rfl))) (by decide) (backOf (W := 0) (rmU l Z a0 hw []  b19 s2 t2 dd (p5.toInt64) sc20 dc20 k120 k220 (3 : Int32) ((((t1 * (3 : Int32)) + s1), .double (FP.l2d (p4.toInt64))) :: []) ((((t1 * (3 : Int32)) + s1), .int p2) :: []) [(.double (FP.l2d (0 : Int64))), (.double (FP.l2d (0 : Int64))), (.double (FP.l2d (0 : Int64))), (.double (FP.l2d (0 : Int64))), (.double (FP.l2d (0 : Int64))), (.double (FP.l2d (0 : Int64)))] [(.int (0 : Int32)), (.int (0 : Int32)), (.int (0 : Int32)), (.int (0 : Int32)), (.int (0 : Int32)), (.int (0 : Int32))] h21 n0 z21 F21_255 F21_256 F21_257 as21 ad21 g_sc20 g_dc20 ne_b19_sc20 ne_b19_dc20 nsd20 (by rcases hs2 with q0 | q0 | q0 <;> rcases ht2 with q1 | q1 <;> rw [q0, q1] <;> decide)) hZ (hw _ (List.mem_of_getElem? (i := 21) rfl)) (hw _ (List.mem_of_getElem? (i := 2) rfl)) (by decide) (by decide)) q22a q22c (g := (mkF m 157 #[.val (.int p1), .val (.int p2), .val (.int p3), .val (.int p4), .val (.int p5), .val (.int p6), .val (.int s1), .val (.int t1), .val (.int s2), .val (.int t2), .val (.int sd), .val (.int dd), .val (.int sq), .val (.int sel), .val (.int dq), .val (.ref b19), .unset, .unset, .unset, .unset] [(.double (FP.l2d (p5.toInt64))), (.int dd), (.int t2), (.int s2), (.ref b19)])) rfl (by rw [hml]; rfl) (Steps.refl _) (argsL := [(.int s2), (.int t2), (.int dd), (.double (FP.l2d (p5.toInt64)))]) (rest := []) (lenOf own_pd1 rfl) rfl (by show 2 * 0 + _ ≤ _; exact Nat.le_of_eq rfl) (hb hby at_157) (fun _ _ => ⟨rfl, e21, (by decide : 3 + 0 ≤ _), (by decide : 15 + 0 ≤ _)⟩)
  dsimp only [Pt.U, Pt.locs, Pt.cells, Pt.slots] at X22 l22 y22 z22 st22 hQ22
  subst l22 y22 z22
  obtain ⟨h22, e22⟩ : ∃ z, T22.heap = z := ⟨_, rfl⟩
  rw [e22] at hQ22
  obtain ⟨rfl, N22q, Kc22, as22, ad22⟩ := hQ22
  have N22 := Fr.app N21 N22q
  have F22_268 := F21_255.keep Kc22 (ninS ne_b19_sc20 (ninS ne_b19_dc20 nin0))
  have F22_269 := F21_256.keep Kc22 (ninS ne_b19_sc20 (ninS ne_b19_dc20 nin0))
  have F22_270 := F21_257.keep Kc22 (ninS ne_b19_sc20 (ninS ne_b19_dc20 nin0))
  have X22_271 := X21_258.keep Kc22
  have z22 : n0 ≤ h22.size := Nat.le_trans z21 Kc22.1
  have pre23 : ∀ tt_, Steps p.tables e below (T22.setTop (mkF m 160 #[.val (.int p1), .val (.int p2), .val (.int p3), .val (.int p4), .val (.int p5), .val (.int p6), .val (.int s1), .val (.int t1), .val (.int s2), .val (.int t2), .val (.int sd), .val (.int dd), .val (.int sq), .val (.int sel), .val (.int dq), .val (.ref b19), .unset, .unset, .unset, .unset] [])) tt_ → Steps p.tables e below (s₁.setTop (entryFrame m #[(.int p1), (.int p2), (.int p3), (.int p4), (.int p5), (.int p6)] maxLocals)) tt_ := fun tt_ kk_ => pre18 tt_ (by
    show Steps p.tables e below (s₁.setTop (mkF m 123 #[.val (.int p1), .val (.int p2), .val (.int p3), .val (.int p4), .val (.int p5), .val (.int p6), .val (.int s1), .val (.int t1), .val (.int s2), .val (.int t2), .val (.int sd), .val (.int dd), .val (.int sq), .val (.int sel), .val (.int dq), .unset, .unset, .unset, .unset, .unset] [])) _
    refine st19 _ ?_
    show Steps p.tables e below (T19.setTop (mkF m 126 #[.val (.int p1), .val (.int p2), .val (.int p3), .val (.int p4), .val (.int p5), .val (.int p6), .val (.int s1), .val (.int t1), .val (.int s2), .val (.int t2), .val (.int sd), .val (.int dd), .val (.int sq), .val (.int sel), .val (.int dq), .unset, .unset, .unset, .unset, .unset] [(.ref b19)])) _
    refine XS.dup X19.here hx rfl (hb hby at_126) rfl rfl ?_
    show Steps p.tables e below (T19.setTop (mkF m 127 #[.val (.int p1), .val (.int p2), .val (.int p3), .val (.int p4), .val (.int p5), .val (.int p6), .val (.int s1), .val (.int t1), .val (.int s2), .val (.int t2), .val (.int sd), .val (.int dd), .val (.int sq), .val (.int sel), .val (.int dq), .unset, .unset, .unset, .unset, .unset] [(.ref b19), (.ref b19)])) _
    refine XS.iconst X19.here hx rfl (hb hby at_127) ?_
    show Steps p.tables e below (T19.setTop (mkF m 128 #[.val (.int p1), .val (.int p2), .val (.int p3), .val (.int p4), .val (.int p5), .val (.int p6), .val (.int s1), .val (.int t1), .val (.int s2), .val (.int t2), .val (.int sd), .val (.int dd), .val (.int sq), .val (.int sel), .val (.int dq), .unset, .unset, .unset, .unset, .unset] [(.int (2 : Int32)), (.ref b19), (.ref b19)])) _
    refine XS.iconst X19.here hx rfl (hb hby at_128) ?_
    show Steps p.tables e below (T19.setTop (mkF m 129 #[.val (.int p1), .val (.int p2), .val (.int p3), .val (.int p4), .val (.int p5), .val (.int p6), .val (.int s1), .val (.int t1), .val (.int s2), .val (.int t2), .val (.int sd), .val (.int dd), .val (.int sq), .val (.int sel), .val (.int dq), .unset, .unset, .unset, .unset, .unset] [(.int (3 : Int32)), (.int (2 : Int32)), (.ref b19), (.ref b19)])) _
    refine st20.trans ?_
    show Steps p.tables e below (T20.setTop (mkF m 132 #[.val (.int p1), .val (.int p2), .val (.int p3), .val (.int p4), .val (.int p5), .val (.int p6), .val (.int s1), .val (.int t1), .val (.int s2), .val (.int t2), .val (.int sd), .val (.int dd), .val (.int sq), .val (.int sel), .val (.int dq), .unset, .unset, .unset, .unset, .unset] [(.ref b19)])) _
    refine XS.astore X20.here hx rfl (hb hby at_132) rfl rfl (l' := #[.val (.int p1), .val (.int p2), .val (.int p3), .val (.int p4), .val (.int p5), .val (.int p6), .val (.int s1), .val (.int t1), .val (.int s2), .val (.int t2), .val (.int sd), .val (.int dd), .val (.int sq), .val (.int sel), .val (.int dq), .val (.ref b19), .unset, .unset, .unset, .unset]) rfl ?_
    show Steps p.tables e below (T20.setTop (mkF m 134 #[.val (.int p1), .val (.int p2), .val (.int p3), .val (.int p4), .val (.int p5), .val (.int p6), .val (.int s1), .val (.int t1), .val (.int s2), .val (.int t2), .val (.int sd), .val (.int dd), .val (.int sq), .val (.int sel), .val (.int dq), .val (.ref b19), .unset, .unset, .unset, .unset] [])) _
    refine XS.aload X20.here hx rfl (hb hby at_134) rfl rfl ?_
    show Steps p.tables e below (T20.setTop (mkF m 136 #[.val (.int p1), .val (.int p2), .val (.int p3), .val (.int p4), .val (.int p5), .val (.int p6), .val (.int s1), .val (.int t1), .val (.int s2), .val (.int t2), .val (.int sd), .val (.int dd), .val (.int sq), .val (.int sel), .val (.int dq), .val (.ref b19), .unset, .unset, .unset, .unset] [(.ref b19)])) _
    refine XS.iload X20.here hx rfl (hb hby at_136) rfl ?_
    show Steps p.tables e below (T20.setTop (mkF m 138 #[.val (.int p1), .val (.int p2), .val (.int p3), .val (.int p4), .val (.int p5), .val (.int p6), .val (.int s1), .val (.int t1), .val (.int s2), .val (.int t2), .val (.int sd), .val (.int dd), .val (.int sq), .val (.int sel), .val (.int dq), .val (.ref b19), .unset, .unset, .unset, .unset] [(.int s1), (.ref b19)])) _
    refine XS.iload X20.here hx rfl (hb hby at_138) rfl ?_
    show Steps p.tables e below (T20.setTop (mkF m 140 #[.val (.int p1), .val (.int p2), .val (.int p3), .val (.int p4), .val (.int p5), .val (.int p6), .val (.int s1), .val (.int t1), .val (.int s2), .val (.int t2), .val (.int sd), .val (.int dd), .val (.int sq), .val (.int sel), .val (.int dq), .val (.ref b19), .unset, .unset, .unset, .unset] [(.int t1), (.int s1), (.ref b19)])) _
    refine XS.iloadN X20.here hx rfl (hb hby at_140) rfl ?_
    show Steps p.tables e below (T20.setTop (mkF m 141 #[.val (.int p1), .val (.int p2), .val (.int p3), .val (.int p4), .val (.int p5), .val (.int p6), .val (.int s1), .val (.int t1), .val (.int s2), .val (.int t2), .val (.int sd), .val (.int dd), .val (.int sq), .val (.int sel), .val (.int dq), .val (.ref b19), .unset, .unset, .unset, .unset] [(.int p2), (.int t1), (.int s1), (.ref b19)])) _
    refine XS.iloadN X20.here hx rfl (hb hby at_141) rfl ?_
    show Steps p.tables e below (T20.setTop (mkF m 142 #[.val (.int p1), .val (.int p2), .val (.int p3), .val (.int p4), .val (.int p5), .val (.int p6), .val (.int s1), .val (.int t1), .val (.int s2), .val (.int t2), .val (.int sd), .val (.int dd), .val (.int sq), .val (.int sel), .val (.int dq), .val (.ref b19), .unset, .unset, .unset, .unset] [(.int p4), (.int p2), (.int t1), (.int s1), (.ref b19)])) _
    refine XS.i2dS X20.here hx rfl (hb hby at_142) rfl (i2d_w _) ?_
    show Steps p.tables e below (T20.setTop (mkF m 143 #[.val (.int p1), .val (.int p2), .val (.int p3), .val (.int p4), .val (.int p5), .val (.int p6), .val (.int s1), .val (.int t1), .val (.int s2), .val (.int t2), .val (.int sd), .val (.int dd), .val (.int sq), .val (.int sel), .val (.int dq), .val (.ref b19), .unset, .unset, .unset, .unset] [(.double (FP.l2d (p4.toInt64))), (.int p2), (.int t1), (.int s1), (.ref b19)])) _
    refine st21.trans ?_
    show Steps p.tables e below (T21.setTop (mkF m 146 #[.val (.int p1), .val (.int p2), .val (.int p3), .val (.int p4), .val (.int p5), .val (.int p6), .val (.int s1), .val (.int t1), .val (.int s2), .val (.int t2), .val (.int sd), .val (.int dd), .val (.int sq), .val (.int sel), .val (.int dq), .val (.ref b19), .unset, .unset, .unset, .unset] [])) _
    refine XS.aload X21.here hx rfl (hb hby at_146) rfl rfl ?_
    show Steps p.tables e below (T21.setTop (mkF m 148 #[.val (.int p1), .val (.int p2), .val (.int p3), .val (.int p4), .val (.int p5), .val (.int p6), .val (.int s1), .val (.int t1), .val (.int s2), .val (.int t2), .val (.int sd), .val (.int dd), .val (.int sq), .val (.int sel), .val (.int dq), .val (.ref b19), .unset, .unset, .unset, .unset] [(.ref b19)])) _
    refine XS.iload X21.here hx rfl (hb hby at_148) rfl ?_
    show Steps p.tables e below (T21.setTop (mkF m 150 #[.val (.int p1), .val (.int p2), .val (.int p3), .val (.int p4), .val (.int p5), .val (.int p6), .val (.int s1), .val (.int t1), .val (.int s2), .val (.int t2), .val (.int sd), .val (.int dd), .val (.int sq), .val (.int sel), .val (.int dq), .val (.ref b19), .unset, .unset, .unset, .unset] [(.int s2), (.ref b19)])) _
    refine XS.iload X21.here hx rfl (hb hby at_150) rfl ?_
    show Steps p.tables e below (T21.setTop (mkF m 152 #[.val (.int p1), .val (.int p2), .val (.int p3), .val (.int p4), .val (.int p5), .val (.int p6), .val (.int s1), .val (.int t1), .val (.int s2), .val (.int t2), .val (.int sd), .val (.int dd), .val (.int sq), .val (.int sel), .val (.int dq), .val (.ref b19), .unset, .unset, .unset, .unset] [(.int t2), (.int s2), (.ref b19)])) _
    refine XS.iload X21.here hx rfl (hb hby at_152) rfl ?_
    show Steps p.tables e below (T21.setTop (mkF m 154 #[.val (.int p1), .val (.int p2), .val (.int p3), .val (.int p4), .val (.int p5), .val (.int p6), .val (.int s1), .val (.int t1), .val (.int s2), .val (.int t2), .val (.int sd), .val (.int dd), .val (.int sq), .val (.int sel), .val (.int dq), .val (.ref b19), .unset, .unset, .unset, .unset] [(.int dd), (.int t2), (.int s2), (.ref b19)])) _
    refine XS.iload X21.here hx rfl (hb hby at_154) rfl ?_
    show Steps p.tables e below (T21.setTop (mkF m 156 #[.val (.int p1), .val (.int p2), .val (.int p3), .val (.int p4), .val (.int p5), .val (.int p6), .val (.int s1), .val (.int t1), .val (.int s2), .val (.int t2), .val (.int sd), .val (.int dd), .val (.int sq), .val (.int sel), .val (.int dq), .val (.ref b19), .unset, .unset, .unset, .unset] [(.int p5), (.int dd), (.int t2), (.int s2), (.ref b19)])) _
    refine XS.i2dS X21.here hx rfl (hb hby at_156) rfl (i2d_w _) ?_
    show Steps p.tables e below (T21.setTop (mkF m 157 #[.val (.int p1), .val (.int p2), .val (.int p3), .val (.int p4), .val (.int p5), .val (.int p6), .val (.int s1), .val (.int t1), .val (.int s2), .val (.int t2), .val (.int sd), .val (.int dd), .val (.int sq), .val (.int sel), .val (.int dq), .val (.ref b19), .unset, .unset, .unset, .unset] [(.double (FP.l2d (p5.toInt64))), (.int dd), (.int t2), (.int s2), (.ref b19)])) _
    refine st22.trans ?_
    exact kk_)
  obtain ⟨v0, x0, bb0, gd0, gc0, ge0⟩ := own_read0 s1 t1 s2 t2 sq dq p2 dd p4 p5 hs1 ht1 hs2 ht2 hsq
  obtain ⟨v1, x1, bb1, gd1, gc1, ge1⟩ := own_read1 s1 t1 s2 t2 sq dq p2 dd p4 p5 hs1 ht1 hs2 ht2 hsq
  obtain ⟨cq24, kq24, q24a, q24b, q24c⟩ := isOf hZ e22 X22_271
  obtain ⟨_, _, ⟨T24, L24, k24, n24⟩, -, X24, ⟨Lc24, hQ24, l24, y24, z24⟩, st24⟩ := X22.virtualBack hx (y := (⟨"com/example/cranfield/cranfield/search/TermScores", "sum", "(II)D"⟩ : MethodName)) (z := (⟨"com/example/cranfield/cranfield/search/TermScores", "sum", "(II)D"⟩ : MethodName)) hown (mvT hZ (hw _ (List.mem_of_getElem? (i := 22) rfl))) (mvT hZ (hw _ (List.mem_of_getElem? (i := 23) rfl))) (notFace_of_selects (args := #[]) (mvT hZ (hw _ (List.mem_of_getElem? (i := 25) rfl)))) (mvT hZ (hw _ (List.mem_of_getElem? (i := 25) rfl))) (mvT hZ (hw _ (List.mem_of_getElem? (i := 24) rfl))) (by decide) (backOf (W := 0) (rmS l Z a0 hw [] b19 sq dq sc20 dc20 k120 k220 ((((t2 * (3 : Int32)) + s2), .double (FP.l2d (p5.toInt64))) :: ((((t1 * (3 : Int32)) + s1), .double (FP.l2d (p4.toInt64))) :: [])) ((((t2 * (3 : Int32)) + s2), .int dd) :: ((((t1 * (3 : Int32)) + s1), .int p2) :: [])) [(.double (FP.l2d (0 : Int64))), (.double (FP.l2d (0 : Int64))), (.double (FP.l2d (0 : Int64))), (.double (FP.l2d (0 : Int64))), (.double (FP.l2d (0 : Int64))), (.double (FP.l2d (0 : Int64)))] [(.int (0 : Int32)), (.int (0 : Int32)), (.int (0 : Int32)), (.int (0 : Int32)), (.int (0 : Int32)), (.int (0 : Int32))] v0 v1 x0 x1 (((0 : Int64) + (own_c (0 : Int32) sq dq s1 t1 p2 p4 s2 t2 dd p5)) + (own_c (1 : Int32) sq dq s1 t1 p2 p4 s2 t2 dd p5)) h22 n0 z22 F22_268 F22_269 F22_270 as22 ad22 (by rcases hsq with q0 | q0 | q0 <;> rw [q0] <;> decide) gd0 gc0 bb0 (by rcases hsq with q0 | q0 | q0 <;> rw [q0] <;> decide) gd1 gc1 bb1 (by rcases hsq with q0 | q0 | q0 <;> rw [q0] <;> decide) (own_sumeq ge0 ge1)) hZ (hw _ (List.mem_of_getElem? (i := 26) rfl)) (hw _ (List.mem_of_getElem? (i := 2) rfl)) (by decide) (by decide)) q24a q24c (g := (mkF m 166 #[.val (.int p1), .val (.int p2), .val (.int p3), .val (.int p4), .val (.int p5), .val (.int p6), .val (.int s1), .val (.int t1), .val (.int s2), .val (.int t2), .val (.int sd), .val (.int dd), .val (.int sq), .val (.int sel), .val (.int dq), .val (.ref b19), .unset, .unset, .unset, .unset] [(.int dq), (.int sq), (.ref b19)])) rfl (by rw [hml]; rfl) (Steps.refl _) (argsL := [(.int sq), (.int dq)]) (rest := []) (lenOf own_pd2 rfl) rfl (by show 2 * 0 + _ ≤ _; exact Nat.le_of_eq rfl) (hb hby at_166) (fun _ _ => ⟨rfl, e22, (by decide : 3 + 0 ≤ _), (by decide : 15 + 0 ≤ _)⟩)
  dsimp only [Pt.U, Pt.locs, Pt.cells, Pt.slots] at X24 l24 y24 z24 st24 hQ24
  subst l24 y24 z24
  obtain ⟨rfl, N24q, e24⟩ := hQ24
  have N24 := Fr.app N22 N24q
  obtain ⟨_, _, ⟨T25, L25, k25, n25⟩, -, X25, ⟨Lc25, hQ25, l25, y25, z25⟩, st25⟩ := Jvm.LawKit.callS X24 hx (y := (⟨"com/example/cranfield/cranfield/search/TermScoresPutPinLaw", "contrib", "(IIIIIIIIIII)D"⟩ : MethodName)) hown (mvT hZ (hw _ (List.mem_of_getElem? (i := 27) rfl))) (mvT hZ (hw _ (List.mem_of_getElem? (i := 28) rfl))) (mvT hZ (hw _ (List.mem_of_getElem? (i := 29) rfl))) (mvT hZ (hw _ (List.mem_of_getElem? (i := 30) rfl))) (by decide) (backOf (W := 2) (rmC l Z a0 hw [] (0 : Int32) sq dq s1 t1 p2 p4 s2 t2 dd p5  h22 n0 z22 ) hZ (hw _ (List.mem_of_getElem? (i := 30) rfl)) (hw _ (List.mem_of_getElem? (i := 29) rfl)) (by decide) (by decide)) (g := (mkF m 195 #[.val (.int p1), .val (.int p2), .val (.int p3), .val (.int p4), .val (.int p5), .val (.int p6), .val (.int s1), .val (.int t1), .val (.int s2), .val (.int t2), .val (.int sd), .val (.int dd), .val (.int sq), .val (.int sel), .val (.int dq), .val (.ref b19), .val (.double (FP.l2d (((0 : Int64) + (own_c (0 : Int32) sq dq s1 t1 p2 p4 s2 t2 dd p5)) + (own_c (1 : Int32) sq dq s1 t1 p2 p4 s2 t2 dd p5)))), .second, .val (.double (FP.l2d (0 : Int64))), .second] [(.int p5), (.int dd), (.int t2), (.int s2), (.int p4), (.int p2), (.int t1), (.int s1), (.int dq), (.int sq), (.int (0 : Int32)), (.double (FP.l2d (0 : Int64)))])) rfl (by rw [hml]; rfl) (argsL := [(.int (0 : Int32)), (.int sq), (.int dq), (.int s1), (.int t1), (.int p2), (.int p4), (.int s2), (.int t2), (.int dd), (.int p5)]) (rest := [(.double (FP.l2d (0 : Int64)))]) (lenOf own_pd3 rfl) rfl (by show 2 * 0 + _ ≤ _; exact Nat.le_of_eq rfl) (hb hby at_195) (fun _ _ => ⟨rfl, e24, (by decide : 3 + 0 ≤ _), (by decide : 15 + 0 ≤ _)⟩)
  dsimp only [Pt.U, Pt.locs, Pt.cells, Pt.slots] at X25 l25 y25 z25 st25 hQ25
  subst l25 y25 z25
  obtain ⟨rfl, N25q, e25⟩ := hQ25
  have N25 := Fr.app N24 N25q
  obtain ⟨_, _, ⟨T26, L26, k26, n26⟩, -, X26, ⟨Lc26, hQ26, l26, y26, z26⟩, st26⟩ := Jvm.LawKit.callS X25 hx (y := (⟨"com/example/cranfield/cranfield/search/TermScoresPutPinLaw", "contrib", "(IIIIIIIIIII)D"⟩ : MethodName)) hown (mvT hZ (hw _ (List.mem_of_getElem? (i := 27) rfl))) (mvT hZ (hw _ (List.mem_of_getElem? (i := 28) rfl))) (mvT hZ (hw _ (List.mem_of_getElem? (i := 29) rfl))) (mvT hZ (hw _ (List.mem_of_getElem? (i := 30) rfl))) (by decide) (backOf (W := 2) (rmC l Z a0 hw [] (1 : Int32) sq dq s1 t1 p2 p4 s2 t2 dd p5  h22 n0 z22 ) hZ (hw _ (List.mem_of_getElem? (i := 30) rfl)) (hw _ (List.mem_of_getElem? (i := 29) rfl)) (by decide) (by decide)) (g := (mkF m 222 #[.val (.int p1), .val (.int p2), .val (.int p3), .val (.int p4), .val (.int p5), .val (.int p6), .val (.int s1), .val (.int t1), .val (.int s2), .val (.int t2), .val (.int sd), .val (.int dd), .val (.int sq), .val (.int sel), .val (.int dq), .val (.ref b19), .val (.double (FP.l2d (((0 : Int64) + (own_c (0 : Int32) sq dq s1 t1 p2 p4 s2 t2 dd p5)) + (own_c (1 : Int32) sq dq s1 t1 p2 p4 s2 t2 dd p5)))), .second, .val (.double (FP.l2d ((0 : Int64) + (own_c (0 : Int32) sq dq s1 t1 p2 p4 s2 t2 dd p5)))), .second] [(.int p5), (.int dd), (.int t2), (.int s2), (.int p4), (.int p2), (.int t1), (.int s1), (.int dq), (.int sq), (.int (1 : Int32)), (.double (FP.l2d ((0 : Int64) + (own_c (0 : Int32) sq dq s1 t1 p2 p4 s2 t2 dd p5))))])) rfl (by rw [hml]; rfl) (argsL := [(.int (1 : Int32)), (.int sq), (.int dq), (.int s1), (.int t1), (.int p2), (.int p4), (.int s2), (.int t2), (.int dd), (.int p5)]) (rest := [(.double (FP.l2d ((0 : Int64) + (own_c (0 : Int32) sq dq s1 t1 p2 p4 s2 t2 dd p5))))]) (lenOf own_pd3 rfl) rfl (by show 2 * 0 + _ ≤ _; exact Nat.le_of_eq rfl) (hb hby at_222) (fun _ _ => ⟨rfl, e25, (by decide : 3 + 0 ≤ _), (by decide : 15 + 0 ≤ _)⟩)
  dsimp only [Pt.U, Pt.locs, Pt.cells, Pt.slots] at X26 l26 y26 z26 st26 hQ26
  subst l26 y26 z26
  obtain ⟨rfl, N26q, e26⟩ := hQ26
  have N26 := Fr.app N25 N26q
  have pre27 : ∀ tt_, Steps p.tables e below (T26.setTop (mkF m 241 #[.val (.int p1), .val (.int p2), .val (.int p3), .val (.int p4), .val (.int p5), .val (.int p6), .val (.int s1), .val (.int t1), .val (.int s2), .val (.int t2), .val (.int sd), .val (.int dd), .val (.int sq), .val (.int sel), .val (.int dq), .val (.ref b19), .val (.double (FP.l2d (((0 : Int64) + (own_c (0 : Int32) sq dq s1 t1 p2 p4 s2 t2 dd p5)) + (own_c (1 : Int32) sq dq s1 t1 p2 p4 s2 t2 dd p5)))), .second, .val (.double (FP.l2d (((0 : Int64) + (own_c (0 : Int32) sq dq s1 t1 p2 p4 s2 t2 dd p5)) + (own_c (1 : Int32) sq dq s1 t1 p2 p4 s2 t2 dd p5)))), .second] [(.int (1 : Int32))])) tt_ → Steps p.tables e below (s₁.setTop (entryFrame m #[(.int p1), (.int p2), (.int p3), (.int p4), (.int p5), (.int p6)] maxLocals)) tt_ := fun tt_ kk_ => pre23 tt_ (by
    show Steps p.tables e below (T22.setTop (mkF m 160 #[.val (.int p1), .val (.int p2), .val (.int p3), .val (.int p4), .val (.int p5), .val (.int p6), .val (.int s1), .val (.int t1), .val (.int s2), .val (.int t2), .val (.int sd), .val (.int dd), .val (.int sq), .val (.int sel), .val (.int dq), .val (.ref b19), .unset, .unset, .unset, .unset] [])) _
    refine XS.aload X22.here hx rfl (hb hby at_160) rfl rfl ?_
    show Steps p.tables e below (T22.setTop (mkF m 162 #[.val (.int p1), .val (.int p2), .val (.int p3), .val (.int p4), .val (.int p5), .val (.int p6), .val (.int s1), .val (.int t1), .val (.int s2), .val (.int t2), .val (.int sd), .val (.int dd), .val (.int sq), .val (.int sel), .val (.int dq), .val (.ref b19), .unset, .unset, .unset, .unset] [(.ref b19)])) _
    refine XS.iload X22.here hx rfl (hb hby at_162) rfl ?_
    show Steps p.tables e below (T22.setTop (mkF m 164 #[.val (.int p1), .val (.int p2), .val (.int p3), .val (.int p4), .val (.int p5), .val (.int p6), .val (.int s1), .val (.int t1), .val (.int s2), .val (.int t2), .val (.int sd), .val (.int dd), .val (.int sq), .val (.int sel), .val (.int dq), .val (.ref b19), .unset, .unset, .unset, .unset] [(.int sq), (.ref b19)])) _
    refine XS.iload X22.here hx rfl (hb hby at_164) rfl ?_
    show Steps p.tables e below (T22.setTop (mkF m 166 #[.val (.int p1), .val (.int p2), .val (.int p3), .val (.int p4), .val (.int p5), .val (.int p6), .val (.int s1), .val (.int t1), .val (.int s2), .val (.int t2), .val (.int sd), .val (.int dd), .val (.int sq), .val (.int sel), .val (.int dq), .val (.ref b19), .unset, .unset, .unset, .unset] [(.int dq), (.int sq), (.ref b19)])) _
    refine st24.trans ?_
    show Steps p.tables e below (T24.setTop (mkF m 169 #[.val (.int p1), .val (.int p2), .val (.int p3), .val (.int p4), .val (.int p5), .val (.int p6), .val (.int s1), .val (.int t1), .val (.int s2), .val (.int t2), .val (.int sd), .val (.int dd), .val (.int sq), .val (.int sel), .val (.int dq), .val (.ref b19), .unset, .unset, .unset, .unset] [(.double (FP.l2d (((0 : Int64) + (own_c (0 : Int32) sq dq s1 t1 p2 p4 s2 t2 dd p5)) + (own_c (1 : Int32) sq dq s1 t1 p2 p4 s2 t2 dd p5))))])) _
    refine XS.dstore X24.here hx rfl (hb hby at_169) rfl (l' := #[.val (.int p1), .val (.int p2), .val (.int p3), .val (.int p4), .val (.int p5), .val (.int p6), .val (.int s1), .val (.int t1), .val (.int s2), .val (.int t2), .val (.int sd), .val (.int dd), .val (.int sq), .val (.int sel), .val (.int dq), .val (.ref b19), .val (.double (FP.l2d (((0 : Int64) + (own_c (0 : Int32) sq dq s1 t1 p2 p4 s2 t2 dd p5)) + (own_c (1 : Int32) sq dq s1 t1 p2 p4 s2 t2 dd p5)))), .second, .unset, .unset]) rfl ?_
    show Steps p.tables e below (T24.setTop (mkF m 171 #[.val (.int p1), .val (.int p2), .val (.int p3), .val (.int p4), .val (.int p5), .val (.int p6), .val (.int s1), .val (.int t1), .val (.int s2), .val (.int t2), .val (.int sd), .val (.int dd), .val (.int sq), .val (.int sel), .val (.int dq), .val (.ref b19), .val (.double (FP.l2d (((0 : Int64) + (own_c (0 : Int32) sq dq s1 t1 p2 p4 s2 t2 dd p5)) + (own_c (1 : Int32) sq dq s1 t1 p2 p4 s2 t2 dd p5)))), .second, .unset, .unset] [])) _
    refine XS.dconst0 X24.here hx rfl (hb hby at_171) own_dc0 ?_
    show Steps p.tables e below (T24.setTop (mkF m 172 #[.val (.int p1), .val (.int p2), .val (.int p3), .val (.int p4), .val (.int p5), .val (.int p6), .val (.int s1), .val (.int t1), .val (.int s2), .val (.int t2), .val (.int sd), .val (.int dd), .val (.int sq), .val (.int sel), .val (.int dq), .val (.ref b19), .val (.double (FP.l2d (((0 : Int64) + (own_c (0 : Int32) sq dq s1 t1 p2 p4 s2 t2 dd p5)) + (own_c (1 : Int32) sq dq s1 t1 p2 p4 s2 t2 dd p5)))), .second, .unset, .unset] [(.double (FP.l2d (0 : Int64)))])) _
    refine XS.dstore X24.here hx rfl (hb hby at_172) rfl (l' := #[.val (.int p1), .val (.int p2), .val (.int p3), .val (.int p4), .val (.int p5), .val (.int p6), .val (.int s1), .val (.int t1), .val (.int s2), .val (.int t2), .val (.int sd), .val (.int dd), .val (.int sq), .val (.int sel), .val (.int dq), .val (.ref b19), .val (.double (FP.l2d (((0 : Int64) + (own_c (0 : Int32) sq dq s1 t1 p2 p4 s2 t2 dd p5)) + (own_c (1 : Int32) sq dq s1 t1 p2 p4 s2 t2 dd p5)))), .second, .val (.double (FP.l2d (0 : Int64))), .second]) rfl ?_
    show Steps p.tables e below (T24.setTop (mkF m 174 #[.val (.int p1), .val (.int p2), .val (.int p3), .val (.int p4), .val (.int p5), .val (.int p6), .val (.int s1), .val (.int t1), .val (.int s2), .val (.int t2), .val (.int sd), .val (.int dd), .val (.int sq), .val (.int sel), .val (.int dq), .val (.ref b19), .val (.double (FP.l2d (((0 : Int64) + (own_c (0 : Int32) sq dq s1 t1 p2 p4 s2 t2 dd p5)) + (own_c (1 : Int32) sq dq s1 t1 p2 p4 s2 t2 dd p5)))), .second, .val (.double (FP.l2d (0 : Int64))), .second] [])) _
    refine XS.dload X24.here hx rfl (hb hby at_174) rfl ?_
    show Steps p.tables e below (T24.setTop (mkF m 176 #[.val (.int p1), .val (.int p2), .val (.int p3), .val (.int p4), .val (.int p5), .val (.int p6), .val (.int s1), .val (.int t1), .val (.int s2), .val (.int t2), .val (.int sd), .val (.int dd), .val (.int sq), .val (.int sel), .val (.int dq), .val (.ref b19), .val (.double (FP.l2d (((0 : Int64) + (own_c (0 : Int32) sq dq s1 t1 p2 p4 s2 t2 dd p5)) + (own_c (1 : Int32) sq dq s1 t1 p2 p4 s2 t2 dd p5)))), .second, .val (.double (FP.l2d (0 : Int64))), .second] [(.double (FP.l2d (0 : Int64)))])) _
    refine XS.iconst X24.here hx rfl (hb hby at_176) ?_
    show Steps p.tables e below (T24.setTop (mkF m 177 #[.val (.int p1), .val (.int p2), .val (.int p3), .val (.int p4), .val (.int p5), .val (.int p6), .val (.int s1), .val (.int t1), .val (.int s2), .val (.int t2), .val (.int sd), .val (.int dd), .val (.int sq), .val (.int sel), .val (.int dq), .val (.ref b19), .val (.double (FP.l2d (((0 : Int64) + (own_c (0 : Int32) sq dq s1 t1 p2 p4 s2 t2 dd p5)) + (own_c (1 : Int32) sq dq s1 t1 p2 p4 s2 t2 dd p5)))), .second, .val (.double (FP.l2d (0 : Int64))), .second] [(.int (0 : Int32)), (.double (FP.l2d (0 : Int64)))])) _
    refine XS.iload X24.here hx rfl (hb hby at_177) rfl ?_
    show Steps p.tables e below (T24.setTop (mkF m 179 #[.val (.int p1), .val (.int p2), .val (.int p3), .val (.int p4), .val (.int p5), .val (.int p6), .val (.int s1), .val (.int t1), .val (.int s2), .val (.int t2), .val (.int sd), .val (.int dd), .val (.int sq), .val (.int sel), .val (.int dq), .val (.ref b19), .val (.double (FP.l2d (((0 : Int64) + (own_c (0 : Int32) sq dq s1 t1 p2 p4 s2 t2 dd p5)) + (own_c (1 : Int32) sq dq s1 t1 p2 p4 s2 t2 dd p5)))), .second, .val (.double (FP.l2d (0 : Int64))), .second] [(.int sq), (.int (0 : Int32)), (.double (FP.l2d (0 : Int64)))])) _
    refine XS.iload X24.here hx rfl (hb hby at_179) rfl ?_
    show Steps p.tables e below (T24.setTop (mkF m 181 #[.val (.int p1), .val (.int p2), .val (.int p3), .val (.int p4), .val (.int p5), .val (.int p6), .val (.int s1), .val (.int t1), .val (.int s2), .val (.int t2), .val (.int sd), .val (.int dd), .val (.int sq), .val (.int sel), .val (.int dq), .val (.ref b19), .val (.double (FP.l2d (((0 : Int64) + (own_c (0 : Int32) sq dq s1 t1 p2 p4 s2 t2 dd p5)) + (own_c (1 : Int32) sq dq s1 t1 p2 p4 s2 t2 dd p5)))), .second, .val (.double (FP.l2d (0 : Int64))), .second] [(.int dq), (.int sq), (.int (0 : Int32)), (.double (FP.l2d (0 : Int64)))])) _
    refine XS.iload X24.here hx rfl (hb hby at_181) rfl ?_
    show Steps p.tables e below (T24.setTop (mkF m 183 #[.val (.int p1), .val (.int p2), .val (.int p3), .val (.int p4), .val (.int p5), .val (.int p6), .val (.int s1), .val (.int t1), .val (.int s2), .val (.int t2), .val (.int sd), .val (.int dd), .val (.int sq), .val (.int sel), .val (.int dq), .val (.ref b19), .val (.double (FP.l2d (((0 : Int64) + (own_c (0 : Int32) sq dq s1 t1 p2 p4 s2 t2 dd p5)) + (own_c (1 : Int32) sq dq s1 t1 p2 p4 s2 t2 dd p5)))), .second, .val (.double (FP.l2d (0 : Int64))), .second] [(.int s1), (.int dq), (.int sq), (.int (0 : Int32)), (.double (FP.l2d (0 : Int64)))])) _
    refine XS.iload X24.here hx rfl (hb hby at_183) rfl ?_
    show Steps p.tables e below (T24.setTop (mkF m 185 #[.val (.int p1), .val (.int p2), .val (.int p3), .val (.int p4), .val (.int p5), .val (.int p6), .val (.int s1), .val (.int t1), .val (.int s2), .val (.int t2), .val (.int sd), .val (.int dd), .val (.int sq), .val (.int sel), .val (.int dq), .val (.ref b19), .val (.double (FP.l2d (((0 : Int64) + (own_c (0 : Int32) sq dq s1 t1 p2 p4 s2 t2 dd p5)) + (own_c (1 : Int32) sq dq s1 t1 p2 p4 s2 t2 dd p5)))), .second, .val (.double (FP.l2d (0 : Int64))), .second] [(.int t1), (.int s1), (.int dq), (.int sq), (.int (0 : Int32)), (.double (FP.l2d (0 : Int64)))])) _
    refine XS.iloadN X24.here hx rfl (hb hby at_185) rfl ?_
    show Steps p.tables e below (T24.setTop (mkF m 186 #[.val (.int p1), .val (.int p2), .val (.int p3), .val (.int p4), .val (.int p5), .val (.int p6), .val (.int s1), .val (.int t1), .val (.int s2), .val (.int t2), .val (.int sd), .val (.int dd), .val (.int sq), .val (.int sel), .val (.int dq), .val (.ref b19), .val (.double (FP.l2d (((0 : Int64) + (own_c (0 : Int32) sq dq s1 t1 p2 p4 s2 t2 dd p5)) + (own_c (1 : Int32) sq dq s1 t1 p2 p4 s2 t2 dd p5)))), .second, .val (.double (FP.l2d (0 : Int64))), .second] [(.int p2), (.int t1), (.int s1), (.int dq), (.int sq), (.int (0 : Int32)), (.double (FP.l2d (0 : Int64)))])) _
    refine XS.iloadN X24.here hx rfl (hb hby at_186) rfl ?_
    show Steps p.tables e below (T24.setTop (mkF m 187 #[.val (.int p1), .val (.int p2), .val (.int p3), .val (.int p4), .val (.int p5), .val (.int p6), .val (.int s1), .val (.int t1), .val (.int s2), .val (.int t2), .val (.int sd), .val (.int dd), .val (.int sq), .val (.int sel), .val (.int dq), .val (.ref b19), .val (.double (FP.l2d (((0 : Int64) + (own_c (0 : Int32) sq dq s1 t1 p2 p4 s2 t2 dd p5)) + (own_c (1 : Int32) sq dq s1 t1 p2 p4 s2 t2 dd p5)))), .second, .val (.double (FP.l2d (0 : Int64))), .second] [(.int p4), (.int p2), (.int t1), (.int s1), (.int dq), (.int sq), (.int (0 : Int32)), (.double (FP.l2d (0 : Int64)))])) _
    refine XS.iload X24.here hx rfl (hb hby at_187) rfl ?_
    show Steps p.tables e below (T24.setTop (mkF m 189 #[.val (.int p1), .val (.int p2), .val (.int p3), .val (.int p4), .val (.int p5), .val (.int p6), .val (.int s1), .val (.int t1), .val (.int s2), .val (.int t2), .val (.int sd), .val (.int dd), .val (.int sq), .val (.int sel), .val (.int dq), .val (.ref b19), .val (.double (FP.l2d (((0 : Int64) + (own_c (0 : Int32) sq dq s1 t1 p2 p4 s2 t2 dd p5)) + (own_c (1 : Int32) sq dq s1 t1 p2 p4 s2 t2 dd p5)))), .second, .val (.double (FP.l2d (0 : Int64))), .second] [(.int s2), (.int p4), (.int p2), (.int t1), (.int s1), (.int dq), (.int sq), (.int (0 : Int32)), (.double (FP.l2d (0 : Int64)))])) _
    refine XS.iload X24.here hx rfl (hb hby at_189) rfl ?_
    show Steps p.tables e below (T24.setTop (mkF m 191 #[.val (.int p1), .val (.int p2), .val (.int p3), .val (.int p4), .val (.int p5), .val (.int p6), .val (.int s1), .val (.int t1), .val (.int s2), .val (.int t2), .val (.int sd), .val (.int dd), .val (.int sq), .val (.int sel), .val (.int dq), .val (.ref b19), .val (.double (FP.l2d (((0 : Int64) + (own_c (0 : Int32) sq dq s1 t1 p2 p4 s2 t2 dd p5)) + (own_c (1 : Int32) sq dq s1 t1 p2 p4 s2 t2 dd p5)))), .second, .val (.double (FP.l2d (0 : Int64))), .second] [(.int t2), (.int s2), (.int p4), (.int p2), (.int t1), (.int s1), (.int dq), (.int sq), (.int (0 : Int32)), (.double (FP.l2d (0 : Int64)))])) _
    refine XS.iload X24.here hx rfl (hb hby at_191) rfl ?_
    show Steps p.tables e below (T24.setTop (mkF m 193 #[.val (.int p1), .val (.int p2), .val (.int p3), .val (.int p4), .val (.int p5), .val (.int p6), .val (.int s1), .val (.int t1), .val (.int s2), .val (.int t2), .val (.int sd), .val (.int dd), .val (.int sq), .val (.int sel), .val (.int dq), .val (.ref b19), .val (.double (FP.l2d (((0 : Int64) + (own_c (0 : Int32) sq dq s1 t1 p2 p4 s2 t2 dd p5)) + (own_c (1 : Int32) sq dq s1 t1 p2 p4 s2 t2 dd p5)))), .second, .val (.double (FP.l2d (0 : Int64))), .second] [(.int dd), (.int t2), (.int s2), (.int p4), (.int p2), (.int t1), (.int s1), (.int dq), (.int sq), (.int (0 : Int32)), (.double (FP.l2d (0 : Int64)))])) _
    refine XS.iload X24.here hx rfl (hb hby at_193) rfl ?_
    show Steps p.tables e below (T24.setTop (mkF m 195 #[.val (.int p1), .val (.int p2), .val (.int p3), .val (.int p4), .val (.int p5), .val (.int p6), .val (.int s1), .val (.int t1), .val (.int s2), .val (.int t2), .val (.int sd), .val (.int dd), .val (.int sq), .val (.int sel), .val (.int dq), .val (.ref b19), .val (.double (FP.l2d (((0 : Int64) + (own_c (0 : Int32) sq dq s1 t1 p2 p4 s2 t2 dd p5)) + (own_c (1 : Int32) sq dq s1 t1 p2 p4 s2 t2 dd p5)))), .second, .val (.double (FP.l2d (0 : Int64))), .second] [(.int p5), (.int dd), (.int t2), (.int s2), (.int p4), (.int p2), (.int t1), (.int s1), (.int dq), (.int sq), (.int (0 : Int32)), (.double (FP.l2d (0 : Int64)))])) _
    refine st25 _ ?_
    show Steps p.tables e below (T25.setTop (mkF m 198 #[.val (.int p1), .val (.int p2), .val (.int p3), .val (.int p4), .val (.int p5), .val (.int p6), .val (.int s1), .val (.int t1), .val (.int s2), .val (.int t2), .val (.int sd), .val (.int dd), .val (.int sq), .val (.int sel), .val (.int dq), .val (.ref b19), .val (.double (FP.l2d (((0 : Int64) + (own_c (0 : Int32) sq dq s1 t1 p2 p4 s2 t2 dd p5)) + (own_c (1 : Int32) sq dq s1 t1 p2 p4 s2 t2 dd p5)))), .second, .val (.double (FP.l2d (0 : Int64))), .second] [(.double (FP.l2d (own_c (0 : Int32) sq dq s1 t1 p2 p4 s2 t2 dd p5))), (.double (FP.l2d (0 : Int64)))])) _
    refine XS.daddS X25.here hx rfl (hb hby at_198) rfl (nn_w (dadd_w (own_b53 own_bz (by decide) (by decide)) (own_b53 (own_cB _ _ _ _ _ _ _ _ _ _ _) (by decide) (by decide)))) (dadd_w (own_b53 own_bz (by decide) (by decide)) (own_b53 (own_cB _ _ _ _ _ _ _ _ _ _ _) (by decide) (by decide))) ?_
    show Steps p.tables e below (T25.setTop (mkF m 199 #[.val (.int p1), .val (.int p2), .val (.int p3), .val (.int p4), .val (.int p5), .val (.int p6), .val (.int s1), .val (.int t1), .val (.int s2), .val (.int t2), .val (.int sd), .val (.int dd), .val (.int sq), .val (.int sel), .val (.int dq), .val (.ref b19), .val (.double (FP.l2d (((0 : Int64) + (own_c (0 : Int32) sq dq s1 t1 p2 p4 s2 t2 dd p5)) + (own_c (1 : Int32) sq dq s1 t1 p2 p4 s2 t2 dd p5)))), .second, .val (.double (FP.l2d (0 : Int64))), .second] [(.double (FP.l2d ((0 : Int64) + (own_c (0 : Int32) sq dq s1 t1 p2 p4 s2 t2 dd p5))))])) _
    refine XS.dstore X25.here hx rfl (hb hby at_199) rfl (l' := #[.val (.int p1), .val (.int p2), .val (.int p3), .val (.int p4), .val (.int p5), .val (.int p6), .val (.int s1), .val (.int t1), .val (.int s2), .val (.int t2), .val (.int sd), .val (.int dd), .val (.int sq), .val (.int sel), .val (.int dq), .val (.ref b19), .val (.double (FP.l2d (((0 : Int64) + (own_c (0 : Int32) sq dq s1 t1 p2 p4 s2 t2 dd p5)) + (own_c (1 : Int32) sq dq s1 t1 p2 p4 s2 t2 dd p5)))), .second, .val (.double (FP.l2d ((0 : Int64) + (own_c (0 : Int32) sq dq s1 t1 p2 p4 s2 t2 dd p5)))), .second]) rfl ?_
    show Steps p.tables e below (T25.setTop (mkF m 201 #[.val (.int p1), .val (.int p2), .val (.int p3), .val (.int p4), .val (.int p5), .val (.int p6), .val (.int s1), .val (.int t1), .val (.int s2), .val (.int t2), .val (.int sd), .val (.int dd), .val (.int sq), .val (.int sel), .val (.int dq), .val (.ref b19), .val (.double (FP.l2d (((0 : Int64) + (own_c (0 : Int32) sq dq s1 t1 p2 p4 s2 t2 dd p5)) + (own_c (1 : Int32) sq dq s1 t1 p2 p4 s2 t2 dd p5)))), .second, .val (.double (FP.l2d ((0 : Int64) + (own_c (0 : Int32) sq dq s1 t1 p2 p4 s2 t2 dd p5)))), .second] [])) _
    refine XS.dload X25.here hx rfl (hb hby at_201) rfl ?_
    show Steps p.tables e below (T25.setTop (mkF m 203 #[.val (.int p1), .val (.int p2), .val (.int p3), .val (.int p4), .val (.int p5), .val (.int p6), .val (.int s1), .val (.int t1), .val (.int s2), .val (.int t2), .val (.int sd), .val (.int dd), .val (.int sq), .val (.int sel), .val (.int dq), .val (.ref b19), .val (.double (FP.l2d (((0 : Int64) + (own_c (0 : Int32) sq dq s1 t1 p2 p4 s2 t2 dd p5)) + (own_c (1 : Int32) sq dq s1 t1 p2 p4 s2 t2 dd p5)))), .second, .val (.double (FP.l2d ((0 : Int64) + (own_c (0 : Int32) sq dq s1 t1 p2 p4 s2 t2 dd p5)))), .second] [(.double (FP.l2d ((0 : Int64) + (own_c (0 : Int32) sq dq s1 t1 p2 p4 s2 t2 dd p5))))])) _
    refine XS.iconst X25.here hx rfl (hb hby at_203) ?_
    show Steps p.tables e below (T25.setTop (mkF m 204 #[.val (.int p1), .val (.int p2), .val (.int p3), .val (.int p4), .val (.int p5), .val (.int p6), .val (.int s1), .val (.int t1), .val (.int s2), .val (.int t2), .val (.int sd), .val (.int dd), .val (.int sq), .val (.int sel), .val (.int dq), .val (.ref b19), .val (.double (FP.l2d (((0 : Int64) + (own_c (0 : Int32) sq dq s1 t1 p2 p4 s2 t2 dd p5)) + (own_c (1 : Int32) sq dq s1 t1 p2 p4 s2 t2 dd p5)))), .second, .val (.double (FP.l2d ((0 : Int64) + (own_c (0 : Int32) sq dq s1 t1 p2 p4 s2 t2 dd p5)))), .second] [(.int (1 : Int32)), (.double (FP.l2d ((0 : Int64) + (own_c (0 : Int32) sq dq s1 t1 p2 p4 s2 t2 dd p5))))])) _
    refine XS.iload X25.here hx rfl (hb hby at_204) rfl ?_
    show Steps p.tables e below (T25.setTop (mkF m 206 #[.val (.int p1), .val (.int p2), .val (.int p3), .val (.int p4), .val (.int p5), .val (.int p6), .val (.int s1), .val (.int t1), .val (.int s2), .val (.int t2), .val (.int sd), .val (.int dd), .val (.int sq), .val (.int sel), .val (.int dq), .val (.ref b19), .val (.double (FP.l2d (((0 : Int64) + (own_c (0 : Int32) sq dq s1 t1 p2 p4 s2 t2 dd p5)) + (own_c (1 : Int32) sq dq s1 t1 p2 p4 s2 t2 dd p5)))), .second, .val (.double (FP.l2d ((0 : Int64) + (own_c (0 : Int32) sq dq s1 t1 p2 p4 s2 t2 dd p5)))), .second] [(.int sq), (.int (1 : Int32)), (.double (FP.l2d ((0 : Int64) + (own_c (0 : Int32) sq dq s1 t1 p2 p4 s2 t2 dd p5))))])) _
    refine XS.iload X25.here hx rfl (hb hby at_206) rfl ?_
    show Steps p.tables e below (T25.setTop (mkF m 208 #[.val (.int p1), .val (.int p2), .val (.int p3), .val (.int p4), .val (.int p5), .val (.int p6), .val (.int s1), .val (.int t1), .val (.int s2), .val (.int t2), .val (.int sd), .val (.int dd), .val (.int sq), .val (.int sel), .val (.int dq), .val (.ref b19), .val (.double (FP.l2d (((0 : Int64) + (own_c (0 : Int32) sq dq s1 t1 p2 p4 s2 t2 dd p5)) + (own_c (1 : Int32) sq dq s1 t1 p2 p4 s2 t2 dd p5)))), .second, .val (.double (FP.l2d ((0 : Int64) + (own_c (0 : Int32) sq dq s1 t1 p2 p4 s2 t2 dd p5)))), .second] [(.int dq), (.int sq), (.int (1 : Int32)), (.double (FP.l2d ((0 : Int64) + (own_c (0 : Int32) sq dq s1 t1 p2 p4 s2 t2 dd p5))))])) _
    refine XS.iload X25.here hx rfl (hb hby at_208) rfl ?_
    show Steps p.tables e below (T25.setTop (mkF m 210 #[.val (.int p1), .val (.int p2), .val (.int p3), .val (.int p4), .val (.int p5), .val (.int p6), .val (.int s1), .val (.int t1), .val (.int s2), .val (.int t2), .val (.int sd), .val (.int dd), .val (.int sq), .val (.int sel), .val (.int dq), .val (.ref b19), .val (.double (FP.l2d (((0 : Int64) + (own_c (0 : Int32) sq dq s1 t1 p2 p4 s2 t2 dd p5)) + (own_c (1 : Int32) sq dq s1 t1 p2 p4 s2 t2 dd p5)))), .second, .val (.double (FP.l2d ((0 : Int64) + (own_c (0 : Int32) sq dq s1 t1 p2 p4 s2 t2 dd p5)))), .second] [(.int s1), (.int dq), (.int sq), (.int (1 : Int32)), (.double (FP.l2d ((0 : Int64) + (own_c (0 : Int32) sq dq s1 t1 p2 p4 s2 t2 dd p5))))])) _
    refine XS.iload X25.here hx rfl (hb hby at_210) rfl ?_
    show Steps p.tables e below (T25.setTop (mkF m 212 #[.val (.int p1), .val (.int p2), .val (.int p3), .val (.int p4), .val (.int p5), .val (.int p6), .val (.int s1), .val (.int t1), .val (.int s2), .val (.int t2), .val (.int sd), .val (.int dd), .val (.int sq), .val (.int sel), .val (.int dq), .val (.ref b19), .val (.double (FP.l2d (((0 : Int64) + (own_c (0 : Int32) sq dq s1 t1 p2 p4 s2 t2 dd p5)) + (own_c (1 : Int32) sq dq s1 t1 p2 p4 s2 t2 dd p5)))), .second, .val (.double (FP.l2d ((0 : Int64) + (own_c (0 : Int32) sq dq s1 t1 p2 p4 s2 t2 dd p5)))), .second] [(.int t1), (.int s1), (.int dq), (.int sq), (.int (1 : Int32)), (.double (FP.l2d ((0 : Int64) + (own_c (0 : Int32) sq dq s1 t1 p2 p4 s2 t2 dd p5))))])) _
    refine XS.iloadN X25.here hx rfl (hb hby at_212) rfl ?_
    show Steps p.tables e below (T25.setTop (mkF m 213 #[.val (.int p1), .val (.int p2), .val (.int p3), .val (.int p4), .val (.int p5), .val (.int p6), .val (.int s1), .val (.int t1), .val (.int s2), .val (.int t2), .val (.int sd), .val (.int dd), .val (.int sq), .val (.int sel), .val (.int dq), .val (.ref b19), .val (.double (FP.l2d (((0 : Int64) + (own_c (0 : Int32) sq dq s1 t1 p2 p4 s2 t2 dd p5)) + (own_c (1 : Int32) sq dq s1 t1 p2 p4 s2 t2 dd p5)))), .second, .val (.double (FP.l2d ((0 : Int64) + (own_c (0 : Int32) sq dq s1 t1 p2 p4 s2 t2 dd p5)))), .second] [(.int p2), (.int t1), (.int s1), (.int dq), (.int sq), (.int (1 : Int32)), (.double (FP.l2d ((0 : Int64) + (own_c (0 : Int32) sq dq s1 t1 p2 p4 s2 t2 dd p5))))])) _
    refine XS.iloadN X25.here hx rfl (hb hby at_213) rfl ?_
    show Steps p.tables e below (T25.setTop (mkF m 214 #[.val (.int p1), .val (.int p2), .val (.int p3), .val (.int p4), .val (.int p5), .val (.int p6), .val (.int s1), .val (.int t1), .val (.int s2), .val (.int t2), .val (.int sd), .val (.int dd), .val (.int sq), .val (.int sel), .val (.int dq), .val (.ref b19), .val (.double (FP.l2d (((0 : Int64) + (own_c (0 : Int32) sq dq s1 t1 p2 p4 s2 t2 dd p5)) + (own_c (1 : Int32) sq dq s1 t1 p2 p4 s2 t2 dd p5)))), .second, .val (.double (FP.l2d ((0 : Int64) + (own_c (0 : Int32) sq dq s1 t1 p2 p4 s2 t2 dd p5)))), .second] [(.int p4), (.int p2), (.int t1), (.int s1), (.int dq), (.int sq), (.int (1 : Int32)), (.double (FP.l2d ((0 : Int64) + (own_c (0 : Int32) sq dq s1 t1 p2 p4 s2 t2 dd p5))))])) _
    refine XS.iload X25.here hx rfl (hb hby at_214) rfl ?_
    show Steps p.tables e below (T25.setTop (mkF m 216 #[.val (.int p1), .val (.int p2), .val (.int p3), .val (.int p4), .val (.int p5), .val (.int p6), .val (.int s1), .val (.int t1), .val (.int s2), .val (.int t2), .val (.int sd), .val (.int dd), .val (.int sq), .val (.int sel), .val (.int dq), .val (.ref b19), .val (.double (FP.l2d (((0 : Int64) + (own_c (0 : Int32) sq dq s1 t1 p2 p4 s2 t2 dd p5)) + (own_c (1 : Int32) sq dq s1 t1 p2 p4 s2 t2 dd p5)))), .second, .val (.double (FP.l2d ((0 : Int64) + (own_c (0 : Int32) sq dq s1 t1 p2 p4 s2 t2 dd p5)))), .second] [(.int s2), (.int p4), (.int p2), (.int t1), (.int s1), (.int dq), (.int sq), (.int (1 : Int32)), (.double (FP.l2d ((0 : Int64) + (own_c (0 : Int32) sq dq s1 t1 p2 p4 s2 t2 dd p5))))])) _
    refine XS.iload X25.here hx rfl (hb hby at_216) rfl ?_
    show Steps p.tables e below (T25.setTop (mkF m 218 #[.val (.int p1), .val (.int p2), .val (.int p3), .val (.int p4), .val (.int p5), .val (.int p6), .val (.int s1), .val (.int t1), .val (.int s2), .val (.int t2), .val (.int sd), .val (.int dd), .val (.int sq), .val (.int sel), .val (.int dq), .val (.ref b19), .val (.double (FP.l2d (((0 : Int64) + (own_c (0 : Int32) sq dq s1 t1 p2 p4 s2 t2 dd p5)) + (own_c (1 : Int32) sq dq s1 t1 p2 p4 s2 t2 dd p5)))), .second, .val (.double (FP.l2d ((0 : Int64) + (own_c (0 : Int32) sq dq s1 t1 p2 p4 s2 t2 dd p5)))), .second] [(.int t2), (.int s2), (.int p4), (.int p2), (.int t1), (.int s1), (.int dq), (.int sq), (.int (1 : Int32)), (.double (FP.l2d ((0 : Int64) + (own_c (0 : Int32) sq dq s1 t1 p2 p4 s2 t2 dd p5))))])) _
    refine XS.iload X25.here hx rfl (hb hby at_218) rfl ?_
    show Steps p.tables e below (T25.setTop (mkF m 220 #[.val (.int p1), .val (.int p2), .val (.int p3), .val (.int p4), .val (.int p5), .val (.int p6), .val (.int s1), .val (.int t1), .val (.int s2), .val (.int t2), .val (.int sd), .val (.int dd), .val (.int sq), .val (.int sel), .val (.int dq), .val (.ref b19), .val (.double (FP.l2d (((0 : Int64) + (own_c (0 : Int32) sq dq s1 t1 p2 p4 s2 t2 dd p5)) + (own_c (1 : Int32) sq dq s1 t1 p2 p4 s2 t2 dd p5)))), .second, .val (.double (FP.l2d ((0 : Int64) + (own_c (0 : Int32) sq dq s1 t1 p2 p4 s2 t2 dd p5)))), .second] [(.int dd), (.int t2), (.int s2), (.int p4), (.int p2), (.int t1), (.int s1), (.int dq), (.int sq), (.int (1 : Int32)), (.double (FP.l2d ((0 : Int64) + (own_c (0 : Int32) sq dq s1 t1 p2 p4 s2 t2 dd p5))))])) _
    refine XS.iload X25.here hx rfl (hb hby at_220) rfl ?_
    show Steps p.tables e below (T25.setTop (mkF m 222 #[.val (.int p1), .val (.int p2), .val (.int p3), .val (.int p4), .val (.int p5), .val (.int p6), .val (.int s1), .val (.int t1), .val (.int s2), .val (.int t2), .val (.int sd), .val (.int dd), .val (.int sq), .val (.int sel), .val (.int dq), .val (.ref b19), .val (.double (FP.l2d (((0 : Int64) + (own_c (0 : Int32) sq dq s1 t1 p2 p4 s2 t2 dd p5)) + (own_c (1 : Int32) sq dq s1 t1 p2 p4 s2 t2 dd p5)))), .second, .val (.double (FP.l2d ((0 : Int64) + (own_c (0 : Int32) sq dq s1 t1 p2 p4 s2 t2 dd p5)))), .second] [(.int p5), (.int dd), (.int t2), (.int s2), (.int p4), (.int p2), (.int t1), (.int s1), (.int dq), (.int sq), (.int (1 : Int32)), (.double (FP.l2d ((0 : Int64) + (own_c (0 : Int32) sq dq s1 t1 p2 p4 s2 t2 dd p5))))])) _
    refine st26 _ ?_
    show Steps p.tables e below (T26.setTop (mkF m 225 #[.val (.int p1), .val (.int p2), .val (.int p3), .val (.int p4), .val (.int p5), .val (.int p6), .val (.int s1), .val (.int t1), .val (.int s2), .val (.int t2), .val (.int sd), .val (.int dd), .val (.int sq), .val (.int sel), .val (.int dq), .val (.ref b19), .val (.double (FP.l2d (((0 : Int64) + (own_c (0 : Int32) sq dq s1 t1 p2 p4 s2 t2 dd p5)) + (own_c (1 : Int32) sq dq s1 t1 p2 p4 s2 t2 dd p5)))), .second, .val (.double (FP.l2d ((0 : Int64) + (own_c (0 : Int32) sq dq s1 t1 p2 p4 s2 t2 dd p5)))), .second] [(.double (FP.l2d (own_c (1 : Int32) sq dq s1 t1 p2 p4 s2 t2 dd p5))), (.double (FP.l2d ((0 : Int64) + (own_c (0 : Int32) sq dq s1 t1 p2 p4 s2 t2 dd p5))))])) _
    refine XS.daddS X26.here hx rfl (hb hby at_225) rfl (nn_w (dadd_w (own_b53 (own_badd own_bz (own_cB _ _ _ _ _ _ _ _ _ _ _) (by decide) (by decide) (by decide) (by decide)) (by decide) (by decide)) (own_b53 (own_cB _ _ _ _ _ _ _ _ _ _ _) (by decide) (by decide)))) (dadd_w (own_b53 (own_badd own_bz (own_cB _ _ _ _ _ _ _ _ _ _ _) (by decide) (by decide) (by decide) (by decide)) (by decide) (by decide)) (own_b53 (own_cB _ _ _ _ _ _ _ _ _ _ _) (by decide) (by decide))) ?_
    show Steps p.tables e below (T26.setTop (mkF m 226 #[.val (.int p1), .val (.int p2), .val (.int p3), .val (.int p4), .val (.int p5), .val (.int p6), .val (.int s1), .val (.int t1), .val (.int s2), .val (.int t2), .val (.int sd), .val (.int dd), .val (.int sq), .val (.int sel), .val (.int dq), .val (.ref b19), .val (.double (FP.l2d (((0 : Int64) + (own_c (0 : Int32) sq dq s1 t1 p2 p4 s2 t2 dd p5)) + (own_c (1 : Int32) sq dq s1 t1 p2 p4 s2 t2 dd p5)))), .second, .val (.double (FP.l2d ((0 : Int64) + (own_c (0 : Int32) sq dq s1 t1 p2 p4 s2 t2 dd p5)))), .second] [(.double (FP.l2d (((0 : Int64) + (own_c (0 : Int32) sq dq s1 t1 p2 p4 s2 t2 dd p5)) + (own_c (1 : Int32) sq dq s1 t1 p2 p4 s2 t2 dd p5))))])) _
    refine XS.dstore X26.here hx rfl (hb hby at_226) rfl (l' := #[.val (.int p1), .val (.int p2), .val (.int p3), .val (.int p4), .val (.int p5), .val (.int p6), .val (.int s1), .val (.int t1), .val (.int s2), .val (.int t2), .val (.int sd), .val (.int dd), .val (.int sq), .val (.int sel), .val (.int dq), .val (.ref b19), .val (.double (FP.l2d (((0 : Int64) + (own_c (0 : Int32) sq dq s1 t1 p2 p4 s2 t2 dd p5)) + (own_c (1 : Int32) sq dq s1 t1 p2 p4 s2 t2 dd p5)))), .second, .val (.double (FP.l2d (((0 : Int64) + (own_c (0 : Int32) sq dq s1 t1 p2 p4 s2 t2 dd p5)) + (own_c (1 : Int32) sq dq s1 t1 p2 p4 s2 t2 dd p5)))), .second]) rfl ?_
    show Steps p.tables e below (T26.setTop (mkF m 228 #[.val (.int p1), .val (.int p2), .val (.int p3), .val (.int p4), .val (.int p5), .val (.int p6), .val (.int s1), .val (.int t1), .val (.int s2), .val (.int t2), .val (.int sd), .val (.int dd), .val (.int sq), .val (.int sel), .val (.int dq), .val (.ref b19), .val (.double (FP.l2d (((0 : Int64) + (own_c (0 : Int32) sq dq s1 t1 p2 p4 s2 t2 dd p5)) + (own_c (1 : Int32) sq dq s1 t1 p2 p4 s2 t2 dd p5)))), .second, .val (.double (FP.l2d (((0 : Int64) + (own_c (0 : Int32) sq dq s1 t1 p2 p4 s2 t2 dd p5)) + (own_c (1 : Int32) sq dq s1 t1 p2 p4 s2 t2 dd p5)))), .second] [])) _
    refine XS.dload X26.here hx rfl (hb hby at_228) rfl ?_
    show Steps p.tables e below (T26.setTop (mkF m 230 #[.val (.int p1), .val (.int p2), .val (.int p3), .val (.int p4), .val (.int p5), .val (.int p6), .val (.int s1), .val (.int t1), .val (.int s2), .val (.int t2), .val (.int sd), .val (.int dd), .val (.int sq), .val (.int sel), .val (.int dq), .val (.ref b19), .val (.double (FP.l2d (((0 : Int64) + (own_c (0 : Int32) sq dq s1 t1 p2 p4 s2 t2 dd p5)) + (own_c (1 : Int32) sq dq s1 t1 p2 p4 s2 t2 dd p5)))), .second, .val (.double (FP.l2d (((0 : Int64) + (own_c (0 : Int32) sq dq s1 t1 p2 p4 s2 t2 dd p5)) + (own_c (1 : Int32) sq dq s1 t1 p2 p4 s2 t2 dd p5)))), .second] [(.double (FP.l2d (((0 : Int64) + (own_c (0 : Int32) sq dq s1 t1 p2 p4 s2 t2 dd p5)) + (own_c (1 : Int32) sq dq s1 t1 p2 p4 s2 t2 dd p5))))])) _
    refine XS.dload X26.here hx rfl (hb hby at_230) rfl ?_
    show Steps p.tables e below (T26.setTop (mkF m 232 #[.val (.int p1), .val (.int p2), .val (.int p3), .val (.int p4), .val (.int p5), .val (.int p6), .val (.int s1), .val (.int t1), .val (.int s2), .val (.int t2), .val (.int sd), .val (.int dd), .val (.int sq), .val (.int sel), .val (.int dq), .val (.ref b19), .val (.double (FP.l2d (((0 : Int64) + (own_c (0 : Int32) sq dq s1 t1 p2 p4 s2 t2 dd p5)) + (own_c (1 : Int32) sq dq s1 t1 p2 p4 s2 t2 dd p5)))), .second, .val (.double (FP.l2d (((0 : Int64) + (own_c (0 : Int32) sq dq s1 t1 p2 p4 s2 t2 dd p5)) + (own_c (1 : Int32) sq dq s1 t1 p2 p4 s2 t2 dd p5)))), .second] [(.double (FP.l2d (((0 : Int64) + (own_c (0 : Int32) sq dq s1 t1 p2 p4 s2 t2 dd p5)) + (own_c (1 : Int32) sq dq s1 t1 p2 p4 s2 t2 dd p5)))), (.double (FP.l2d (((0 : Int64) + (own_c (0 : Int32) sq dq s1 t1 p2 p4 s2 t2 dd p5)) + (own_c (1 : Int32) sq dq s1 t1 p2 p4 s2 t2 dd p5))))])) _
    refine XS.dcmpS X26.here hx rfl (hb hby at_232) rfl (dcmpV_w (own_b53 (own_badd (own_badd own_bz (own_cB _ _ _ _ _ _ _ _ _ _ _) (by decide) (by decide) (by decide) (by decide)) (own_cB _ _ _ _ _ _ _ _ _ _ _) (by decide) (by decide) (by decide) (by decide)) (by decide) (by decide)) (own_b53 (own_badd (own_badd own_bz (own_cB _ _ _ _ _ _ _ _ _ _ _) (by decide) (by decide) (by decide) (by decide)) (own_cB _ _ _ _ _ _ _ _ _ _ _) (by decide) (by decide) (by decide) (by decide)) (by decide) (by decide)) .l) ?_
    show Steps p.tables e below (T26.setTop (mkF m 233 #[.val (.int p1), .val (.int p2), .val (.int p3), .val (.int p4), .val (.int p5), .val (.int p6), .val (.int s1), .val (.int t1), .val (.int s2), .val (.int t2), .val (.int sd), .val (.int dd), .val (.int sq), .val (.int sel), .val (.int dq), .val (.ref b19), .val (.double (FP.l2d (((0 : Int64) + (own_c (0 : Int32) sq dq s1 t1 p2 p4 s2 t2 dd p5)) + (own_c (1 : Int32) sq dq s1 t1 p2 p4 s2 t2 dd p5)))), .second, .val (.double (FP.l2d (((0 : Int64) + (own_c (0 : Int32) sq dq s1 t1 p2 p4 s2 t2 dd p5)) + (own_c (1 : Int32) sq dq s1 t1 p2 p4 s2 t2 dd p5)))), .second] [(.int (lcmpW (((0 : Int64) + (own_c (0 : Int32) sq dq s1 t1 p2 p4 s2 t2 dd p5)) + (own_c (1 : Int32) sq dq s1 t1 p2 p4 s2 t2 dd p5)) (((0 : Int64) + (own_c (0 : Int32) sq dq s1 t1 p2 p4 s2 t2 dd p5)) + (own_c (1 : Int32) sq dq s1 t1 p2 p4 s2 t2 dd p5))))])) _
    refine XS.ifNo X26.here hx rfl (hb hby at_233) rfl ((if0 _ _).trans (teq ((own_lc0 rfl) : (lcmpW (((0 : Int64) + (own_c (0 : Int32) sq dq s1 t1 p2 p4 s2 t2 dd p5)) + (own_c (1 : Int32) sq dq s1 t1 p2 p4 s2 t2 dd p5)) (((0 : Int64) + (own_c (0 : Int32) sq dq s1 t1 p2 p4 s2 t2 dd p5)) + (own_c (1 : Int32) sq dq s1 t1 p2 p4 s2 t2 dd p5))) = (0 : Int32))).2) ?_
    show Steps p.tables e below (T26.setTop (mkF m 236 #[.val (.int p1), .val (.int p2), .val (.int p3), .val (.int p4), .val (.int p5), .val (.int p6), .val (.int s1), .val (.int t1), .val (.int s2), .val (.int t2), .val (.int sd), .val (.int dd), .val (.int sq), .val (.int sel), .val (.int dq), .val (.ref b19), .val (.double (FP.l2d (((0 : Int64) + (own_c (0 : Int32) sq dq s1 t1 p2 p4 s2 t2 dd p5)) + (own_c (1 : Int32) sq dq s1 t1 p2 p4 s2 t2 dd p5)))), .second, .val (.double (FP.l2d (((0 : Int64) + (own_c (0 : Int32) sq dq s1 t1 p2 p4 s2 t2 dd p5)) + (own_c (1 : Int32) sq dq s1 t1 p2 p4 s2 t2 dd p5)))), .second] [])) _
    refine XS.iconst X26.here hx rfl (hb hby at_236) ?_
    show Steps p.tables e below (T26.setTop (mkF m 237 #[.val (.int p1), .val (.int p2), .val (.int p3), .val (.int p4), .val (.int p5), .val (.int p6), .val (.int s1), .val (.int t1), .val (.int s2), .val (.int t2), .val (.int sd), .val (.int dd), .val (.int sq), .val (.int sel), .val (.int dq), .val (.ref b19), .val (.double (FP.l2d (((0 : Int64) + (own_c (0 : Int32) sq dq s1 t1 p2 p4 s2 t2 dd p5)) + (own_c (1 : Int32) sq dq s1 t1 p2 p4 s2 t2 dd p5)))), .second, .val (.double (FP.l2d (((0 : Int64) + (own_c (0 : Int32) sq dq s1 t1 p2 p4 s2 t2 dd p5)) + (own_c (1 : Int32) sq dq s1 t1 p2 p4 s2 t2 dd p5)))), .second] [(.int (1 : Int32))])) _
    refine XS.goto X26.here hx rfl (pc0 := 237) (pc' := 241) rfl (hb hby at_237) (by decide) (by decide) ?_
    exact kk_)
  obtain ⟨fs, hr, hrun, hended, hW, hsame⟩ := X26.leave (v := some (.int (nar .boolean (1 : Int32)))) (fun h => by rw [Bd.returns] at h; cases h)
  refine ⟨_, _, pre27 _ ?_, hrun, hended, _, _, rfl, ?_, ⟨_, rfl⟩, hW, hsame.mono (by decide) (by decide)⟩
  · show Steps p.tables e below (T26.setTop (mkF m 241 #[.val (.int p1), .val (.int p2), .val (.int p3), .val (.int p4), .val (.int p5), .val (.int p6), .val (.int s1), .val (.int t1), .val (.int s2), .val (.int t2), .val (.int sd), .val (.int dd), .val (.int sq), .val (.int sel), .val (.int dq), .val (.ref b19), .val (.double (FP.l2d (((0 : Int64) + (own_c (0 : Int32) sq dq s1 t1 p2 p4 s2 t2 dd p5)) + (own_c (1 : Int32) sq dq s1 t1 p2 p4 s2 t2 dd p5)))), .second, .val (.double (FP.l2d (((0 : Int64) + (own_c (0 : Int32) sq dq s1 t1 p2 p4 s2 t2 dd p5)) + (own_c (1 : Int32) sq dq s1 t1 p2 p4 s2 t2 dd p5)))), .second] [(.int (1 : Int32))])) _
    exact retN X26 hx (t := .boolean) Bd.returns (by simp) (hb hby at_241) hr
  · show QL n0 _ T26.heap _
    rw [e26]
    exact ⟨rfl, N26⟩
set_option maxRecDepth 65536 in
set_option maxHeartbeats 40000000 in
theorem comes_1 {Post : Tables → Env → Array Value → State → Outcome → State → Prop} (hpost : ∀ tb e args s v u, (limb_1_1.after args s (.returned v) u = true ∧ limb_1_2.after args s (.returned v) u = true ∧ True) → FrameEnd s (.returned v) u (Jvm.fieldLocs frame_1_writes args s ++ Jvm.arrayLocs frame_1_arrays args s ++ Jvm.staticLocs frame_1_statics s) 16 128 → Post tb e args s (.returned v) u) :
    ArmFor flags0 classFile x code maxLocals ret World_1 tables_1 room_1 Calls_1 rest_1 Pre_1 Post := by
  intro l hfl _ _ p e ha hc hk s m args below hf hA hF happ hP
  obtain ⟨hcalls, hrest, hpre⟩ := hP
  obtain ⟨-, -, -, hnamed, -, -, -, hat⟩ := (Spec.applies_iff hf).mp happ
  obtain ⟨hg, hn⟩ := and_e (Cond.before_iff.mp (show (Jvm.Cond.and given_1 narrow_1).before args s = true from hpre))
  obtain ⟨gc, gr0⟩ := and_e hg
  obtain ⟨ga0, gr1⟩ := and_e gr0
  obtain ⟨ga1, gr2⟩ := and_e gr1
  obtain ⟨ga2, gr3⟩ := and_e gr2
  obtain ⟨ga3, gr4⟩ := and_e gr3
  obtain ⟨ga4, gr5⟩ := and_e gr4
  have ga5 := gr5
  obtain ⟨w0, w1, w2, w3, w4, w5, rfl⟩ : ∃ w0 w1 w2 w3 w4 w5 : Value, args = #[w0, w1, w2, w3, w4, w5] := by
    have hs : args.size = 6 := by simpa [Cond.value, given_1] using gc
    obtain ⟨L⟩ := args
    match L, hs with
    | [w0, w1, w2, w3, w4, w5], _ => exact ⟨w0, w1, w2, w3, w4, w5, rfl⟩
  have hw := fun d (hd : d ∈ tables_1) => atoms_spec (ws := Jvm.Cond.code x code maxLocals ret :: tables_1) hat d (List.mem_cons_of_mem _ hd)
  have hfit : Fit s := fun {y c} hc i hi => by
    obtain ⟨ha, rfl⟩ := Array.getElem?_eq_some_iff.mp hc
    have q := List.all_eq_true.mp ((Array.all_eq_true_iff_forall_mem.mp hF) _ (Array.getElem_mem ha)) i (List.mem_range.mpr hi)
    simpa [Array.getElem?_eq_getElem hi] using q
  obtain ⟨i0, ei0⟩ := is_v ga0
  obtain rfl : w0 = (.int i0) := Option.some.inj ei0
  obtain ⟨i1, ei1⟩ := is_v ga1
  obtain rfl : w1 = (.int i1) := Option.some.inj ei1
  obtain ⟨i2, ei2⟩ := is_v ga2
  obtain rfl : w2 = (.int i2) := Option.some.inj ei2
  obtain ⟨i3, ei3⟩ := is_v ga3
  obtain rfl : w3 = (.int i3) := Option.some.inj ei3
  obtain ⟨i4, ei4⟩ := is_v ga4
  obtain rfl : w4 = (.int i4) := Option.some.inj ei4
  obtain ⟨i5, ei5⟩ := is_v ga5
  obtain rfl : w5 = (.int i5) := Option.some.inj ei5
  obtain ⟨n, o, h1, h2, h3, _, L, rfl, ⟨rfl, N⟩, hq⟩ := rm0 l s _ hw tables_1 i0 i1 i2 i3 i4 i5  s.heap s.heap.size (Nat.le_refl _)  p e ha hc hk s m _ below hf ((Spec.applies_iff_loose hf).mp happ).1 ⟨rfl, State.Warmed39.refl s, rfl⟩ trivial
  refine ⟨n, _, h1, h2, h3, hpost _ _ _ _ _ _ ⟨Cond.after_iff.mpr rfl, Cond.after_iff.mpr (eq_i res_at (Term.int_eval (1)) rfl), trivial⟩ ⟨hq.1, hq.2.1, (hq.2.2.sift fun y hy => Or.inr (N y hy)).mono (by decide) (by decide)⟩⟩
theorem main_1_1 : Claimed_1_1 := comes_1 fun _ _ _ _ _ _ h hF => ⟨h.1, hF⟩
theorem main_1_2 : Claimed_1_2 := comes_1 fun _ _ _ _ _ _ h hF => ⟨h.2.1, hF⟩
end Jvm.Pilot.@@N@@
namespace Jvm.Pilot.@@N@@
open Jvm Jvm.ClassFile Sem Op Lib Jvm.Free Jvm.Stand Jvm.Pilot.@@N@@.Jvm.D
/-! MADE BY PROGRAM (witnessworld.py) out of the Statement's table words and the real class files: 9 classes; the members and pool entries that the words name. The judged class is class 1, her method 2. -/
namespace start1
open Jvm.ClassFile
def u (s : String) : CpInfo := .utf8 (stringToUtf16 s)
/-- a pool by its gaps: so many unusable entries, then the entry; so many at the end -/
def gap : Nat → List CpInfo → List CpInfo
  | 0, r => r
  | n + 1, r => .unusable :: gap n r
def poolList (es : List (Nat × CpInfo)) (last : Nat) : List CpInfo := es.foldr (fun e r => gap e.1 (e.2 :: r)) (gap last [])
def pool (es : List (Nat × CpInfo)) (last : Nat) : Array CpInfo := ⟨poolList es last⟩
def fileOf (pool : Array CpInfo) (this : Nat) (attrs : Array Attribute := #[]) (ms : Array MethodInfo := #[]) (fl : Nat := 33) (sup : Nat := 0) (ifs : Array Nat := #[]) (fds : Array FieldInfo := #[]) : ClassFile where
  minorVersion := 0
  majorVersion := 65
  constantPool := pool
  accessFlags := fl
  thisClass := this
  superClass := sup
  interfaces := ifs
  fields := fds
  methods := ms
  attributes := attrs
def plain (name : String) (sup : Option ClassId) : Class where
  name := name
  kind := .ordinary
  loader := none
  accessFlags := 33
  super := sup
  interfaces := #[]
  cf := none
  fields := #[]
  methods := #[]
  instanceTypes := #[]
  staticTypes := #[]
  resolved := #[]
  callSites := []
  init := .initialized
  statics := none
  mirror := none

def pool0 : Array CpInfo := pool [(5, u "<init>"), (0, u "()V"), (1, .class_ 10), (1, u "java/lang/Object")] 113

def k0c0 : Code := { maxStack := 0, maxLocals := 1, code := object_method_1_code, exceptionTable := #[], attributes := #[] }
def k0m0 : Method := { name := "<init>", desc := "()V", sig := { parameters := [], returnType := none }, accessFlags := 1, code := some k0c0 }
/-- java/lang/Object -/
def k0 : Class := { plain "java/lang/Object" none with
  accessFlags := 33
  interfaces := #[]
  cf := some (fileOf pool0 8 #[] #[{ accessFlags := 1, nameIndex := 5, descriptorIndex := 6, attributes := #[] }] 33 0 #[] #[])
  fields := #[]
  methods := #[k0m0]
  instanceTypes := #[]
  staticTypes := #[]
  resolved := Array.replicate 124 none
  statics := none }

def pool1 : Array CpInfo := pool [(2, .class_ 4), (1, u "java/lang/Object"), (0, u "<init>"), (0, u "()V"), (0, .class_ 8), (0, u "com/example/cranfield/cranfield/search/TermScores"), (0, .methodref 7 10), (0, .nameAndType 5 11), (0, u "(II)V"), (0, .methodref 7 13), (0, .nameAndType 14 15), (0, u "put"), (0, u "(IIID)V"), (0, .methodref 7 17), (0, .nameAndType 18 19), (0, u "sum"), (0, u "(II)D"), (0, .methodref 21 22), (0, .class_ 23), (0, .nameAndType 24 25), (0, u "com/example/cranfield/cranfield/search/TermScoresPutPinLaw"), (0, u "contrib"), (0, u "(IIIIIIIIIII)D"), (3, u "law"), (0, u "(IIIIII)Z")] 2

def k1m0 : Method := { name := "<init>", desc := "()V", sig := { parameters := [], returnType := none }, accessFlags := 1, code := none }
def k1c1 : Code := { maxStack := 2, maxLocals := 13, code := method_2_code, exceptionTable := #[], attributes := #[] }
def k1m1 : Method := { name := "contrib", desc := "(IIIIIIIIIII)D", sig := { parameters := [.int, .int, .int, .int, .int, .int, .int, .int, .int, .int, .int], returnType := some .double }, accessFlags := 10, code := some k1c1 }
def k1c2 : Code := { maxStack := 13, maxLocals := 20, code := code, exceptionTable := #[], attributes := #[] }
def k1m2 : Method := { name := "law", desc := "(IIIIII)Z", sig := { parameters := [.int, .int, .int, .int, .int, .int], returnType := some .boolean }, accessFlags := 9, code := some k1c2 }
/-- com/example/cranfield/cranfield/search/TermScoresPutPinLaw -/
def k1 : Class := { plain "com/example/cranfield/cranfield/search/TermScoresPutPinLaw" (some 0) with
  accessFlags := 49
  interfaces := #[]
  cf := some (fileOf pool1 21 #[] #[{ accessFlags := 1, nameIndex := 5, descriptorIndex := 6, attributes := #[] }, { accessFlags := 10, nameIndex := 24, descriptorIndex := 25, attributes := #[] }, { accessFlags := 9, nameIndex := 29, descriptorIndex := 30, attributes := #[] }] 49 2 #[] #[])
  fields := #[]
  methods := #[k1m0, k1m1, k1m2]
  instanceTypes := #[]
  staticTypes := #[]
  resolved := Array.replicate 33 none
  statics := none }

def pool2 : Array CpInfo := pool [(1, .methodref 2 3), (0, .class_ 4), (0, .nameAndType 5 6), (0, u "java/lang/Object"), (0, u "<init>"), (0, u "()V"), (0, .fieldref 8 9), (0, .class_ 10), (0, .nameAndType 11 12), (0, u "com/example/cranfield/cranfield/search/TermScores"), (0, u "slots"), (0, u "I"), (0, .fieldref 8 14), (0, .nameAndType 15 16), (0, u "scores"), (0, u "[D"), (0, .fieldref 8 18), (0, .nameAndType 19 20), (0, u "documents"), (0, u "[I"), (0, u "(II)V"), (2, u "put"), (0, u "(IIID)V"), (0, u "sum"), (0, u "(II)D")] 3

def k2c0 : Code := { maxStack := 3, maxLocals := 3, code := prog_104_method_1_code, exceptionTable := #[], attributes := #[] }
def k2m0 : Method := { name := "<init>", desc := "(II)V", sig := { parameters := [.int, .int], returnType := none }, accessFlags := 0, code := some k2c0 }
def k2c1 : Code := { maxStack := 4, maxLocals := 6, code := prog_104_method_2_code, exceptionTable := #[], attributes := #[] }
def k2m1 : Method := { name := "put", desc := "(IIID)V", sig := { parameters := [.int, .int, .int, .double], returnType := none }, accessFlags := 0, code := some k2c1 }
def k2c2 : Code := { maxStack := 4, maxLocals := 6, code := prog_104_method_3_code, exceptionTable := #[], attributes := #[] }
def k2m2 : Method := { name := "sum", desc := "(II)D", sig := { parameters := [.int, .int], returnType := some .double }, accessFlags := 0, code := some k2c2 }
/-- com/example/cranfield/cranfield/search/TermScores -/
def k2 : Class := { plain "com/example/cranfield/cranfield/search/TermScores" (some 0) with
  accessFlags := 48
  interfaces := #[]
  cf := some (fileOf pool2 8 #[] #[{ accessFlags := 0, nameIndex := 5, descriptorIndex := 21, attributes := #[] }, { accessFlags := 0, nameIndex := 24, descriptorIndex := 25, attributes := #[] }, { accessFlags := 0, nameIndex := 26, descriptorIndex := 27, attributes := #[] }] 48 2 #[] #[{ accessFlags := 18, nameIndex := 11, descriptorIndex := 12, attributes := #[] }, { accessFlags := 18, nameIndex := 15, descriptorIndex := 16, attributes := #[] }, { accessFlags := 18, nameIndex := 19, descriptorIndex := 20, attributes := #[] }])
  fields := #[{ name := "slots", type := .int, accessFlags := 18, slot := 0, constantValue := 0 }, { name := "scores", type := (.array .double), accessFlags := 18, slot := 1, constantValue := 0 }, { name := "documents", type := (.array .int), accessFlags := 18, slot := 2, constantValue := 0 }]
  methods := #[k2m0, k2m1, k2m2]
  instanceTypes := #[.int, (.array .double), (.array .int)]
  staticTypes := #[]
  resolved := Array.replicate 31 none
  statics := none }

def pool3 : Array CpInfo := pool [(1, u "java/lang/Cloneable"), (0, .class_ 1), (0, u "java/lang/Object"), (0, .class_ 3)] 3

/-- java/lang/Cloneable -/
def k3 : Class := { plain "java/lang/Cloneable" (some 0) with
  accessFlags := 1537
  interfaces := #[]
  cf := some (fileOf pool3 2 #[] #[] 1537 4 #[] #[])
  fields := #[]
  methods := #[]
  instanceTypes := #[]
  staticTypes := #[]
  resolved := Array.replicate 8 none
  statics := none }

def pool4 : Array CpInfo := pool [(1, u "java/io/Serializable"), (0, .class_ 1), (0, u "java/lang/Object"), (0, .class_ 3)] 3

/-- java/io/Serializable -/
def k4 : Class := { plain "java/io/Serializable" (some 0) with
  accessFlags := 1537
  interfaces := #[]
  cf := some (fileOf pool4 2 #[] #[] 1537 4 #[] #[])
  fields := #[]
  methods := #[]
  instanceTypes := #[]
  staticTypes := #[]
  resolved := Array.replicate 8 none
  statics := none }

/-- the primitive byte -/
def k5 : Class := { plain "byte" none with kind := .primitive 'B', accessFlags := 0x411 }
/-- [B -/
def k6 : Class := { plain "[B" (some 0) with kind := .array 5 .byte, interfaces := #[3, 4], accessFlags := 1041 }

/-- the primitive int -/
def k7 : Class := { plain "int" none with kind := .primitive 'I', accessFlags := 0x411 }
/-- [I -/
def k8 : Class := { plain "[I" (some 0) with kind := .array 7 .int, interfaces := #[3, 4], accessFlags := 1041 }

def heap : Heap := #[]
def k9 : Class := { plain "double" none with kind := .primitive 'D', accessFlags := 0x411 }
def k10 : Class := { plain "[D" (some 0) with kind := .array 9 .double, interfaces := #[3, 4], accessFlags := 1041 }
def classes : Array Class := #[k0, k1, k2, k3, k4, k5, k6, k7, k8, k9, k10]
def interned : List (Array UInt16 × Addr) := []
def slotsUsed : Nat := 0
def theMethod : MethodId := ⟨1, 2⟩
def args0 : Array Value := #[.int 5, .int 6, .int 7, .int 8, .int 9, .int 3]
def aboutOver (below : List Frame) : State where
  vm := { classes := classes, interned := interned.toArray }
  heap := heap
  slotsUsed := slotsUsed
  threads := #[{ frames := .invoking theMethod args0 :: below }]
def below0 : List Frame := [.native { method := ⟨0, 0⟩, args := #[] }]
def about1 : State := aboutOver below0
def p0 : Program := .bare "" "" ""
def e0 : Env := launch0.env 0 0 0
theorem w_frames : about1.frames = Frame.invoking theMethod args0 :: below0 := rfl
set_option maxRecDepth 65536 in
theorem w_args : argsFit about1.vm theMethod args0 = true := by decide +kernel
set_option maxRecDepth 65536 in
theorem w_heap : heapFits about1 = true := by decide +kernel
set_option maxRecDepth 65536 in
theorem w_runnable : about1.curStatus? = some .runnable := by decide +kernel
set_option maxRecDepth 65536 in
theorem w_alone : about1.alone = true := by decide +kernel
set_option maxRecDepth 65536 in
theorem w_named : about1.methodNamed? x = some theMethod := by decide +kernel
set_option maxRecDepth 65536 in
theorem w_hears : about1.hears theMethod below0 = true := by decide +kernel
set_option maxRecDepth 65536 in
theorem w_ripe : about1.ripe theMethod args0 below0 = true := by decide +kernel
theorem w_running : about1.status = .running := rfl
set_option maxRecDepth 65536 in
theorem w_room : about1.hasRoom e0.platform room_1 = true :=
  launch0.hasRoom_least _ room_1 (by decide +kernel) (by decide +kernel) (by decide +kernel) (by decide +kernel) (by decide +kernel) (by decide +kernel)
theorem allAtoms_all (ts : List Jvm.Cond) (a : Array Jvm.Value) (st : Jvm.State) : (allAtoms ts).before a st = ts.all (fun c => c.before a st) := by
  induction ts with
  | nil => rfl
  | cons c t ih =>
    show (Jvm.Cond.and c (allAtoms t)).before a st = _
    rw [Jvm.Cond.before_and, ih, List.all_cons]
def words1 : List Jvm.Cond := Jvm.Cond.code x code maxLocals ret :: tables_1
/-- a 'code' word, met by the world's own term for the bytes: nothing is compared byte by byte -/
theorem code_word {y : MethodName} {bytes : ByteArray} {mx : Nat} {rt : Option FieldType} {a : Array Value} {s : State} {m : MethodId} {meth : Method} {c : Code} (h1 : s.methodNamed? y = some m) (h2 : s.vm.method? m = some meth) (h3 : meth.code = some c) (h4 : c.code = bytes)
    (h5 : (c.maxLocals == mx && c.exceptionTable.isEmpty && decide (c.maxStack ≤ mostOperands) && decide (meth.sig.returnType = rt) && !meth.locks && decide (parseMethodDescriptor y.desc = some meth.sig)) = true) : (Jvm.Cond.code y bytes mx rt).before a s = true := by
  simp only [Bool.and_eq_true, beq_iff_eq, Bool.not_eq_true', decide_eq_true_eq] at h5
  obtain ⟨⟨⟨⟨⟨g1, g2⟩, g3⟩, g4⟩, g5⟩, g6⟩ := h5
  simp [Cond.before, Cond.holds, Cond.value, h1, h2, h3, h4, g1, g2, g3, g4, g5, g6]
def isCode : Jvm.Cond → Bool
  | .code _ _ _ _ => true
  | _ => false
theorem all_split {L : List Jvm.Cond} {P : Jvm.Cond → Bool} (h1 : L.all (fun c => isCode c || P c) = true) (h2 : ∀ c ∈ L.filter isCode, P c = true) : L.all P = true := by
  refine List.all_eq_true.mpr fun c hc => ?_
  have h := List.all_eq_true.mp h1 c hc
  rcases Bool.eq_false_or_eq_true (isCode c) with hi | hi
  · exact h2 c (List.mem_filter.mpr ⟨hc, hi⟩)
  · simpa [hi] using h
set_option maxRecDepth 65536 in
theorem w_c0 : (Jvm.Cond.code x code maxLocals ret).before args0 about1 = true := code_word (m := ⟨1, 2⟩) (meth := k1m2) (c := k1c2) (by decide +kernel) rfl rfl rfl (by decide +kernel)
set_option maxRecDepth 65536 in
theorem w_c1 : (Jvm.Cond.code ({ cls := "com/example/cranfield/cranfield/search/TermScores", name := "<init>", desc := "(II)V" } : Jvm.MethodName) prog_104_method_1_code (3 : Nat) (Option.none : Option Jvm.ClassFile.FieldType)).before args0 about1 = true := code_word (m := ⟨2, 0⟩) (meth := k2m0) (c := k2c0) (by decide +kernel) rfl rfl rfl (by decide +kernel)
set_option maxRecDepth 65536 in
theorem w_c2 : (Jvm.Cond.code ({ cls := "java/lang/Object", name := "<init>", desc := "()V" } : Jvm.MethodName) object_method_1_code (1 : Nat) (Option.none : Option Jvm.ClassFile.FieldType)).before args0 about1 = true := code_word (m := ⟨0, 0⟩) (meth := k0m0) (c := k0c0) (by decide +kernel) rfl rfl rfl (by decide +kernel)
set_option maxRecDepth 65536 in
theorem w_c3 : (Jvm.Cond.code ({ cls := "com/example/cranfield/cranfield/search/TermScores", name := "put", desc := "(IIID)V" } : Jvm.MethodName) prog_104_method_2_code (6 : Nat) (Option.none : Option Jvm.ClassFile.FieldType)).before args0 about1 = true := code_word (m := ⟨2, 1⟩) (meth := k2m1) (c := k2c1) (by decide +kernel) rfl rfl rfl (by decide +kernel)
set_option maxRecDepth 65536 in
theorem w_c4 : (Jvm.Cond.code ({ cls := "com/example/cranfield/cranfield/search/TermScores", name := "sum", desc := "(II)D" } : Jvm.MethodName) prog_104_method_3_code (6 : Nat) (Option.some Jvm.ClassFile.FieldType.double)).before args0 about1 = true := code_word (m := ⟨2, 2⟩) (meth := k2m2) (c := k2c2) (by decide +kernel) rfl rfl rfl (by decide +kernel)
set_option maxRecDepth 65536 in
theorem w_c5 : (Jvm.Cond.code ({ cls := "com/example/cranfield/cranfield/search/TermScoresPutPinLaw", name := "contrib", desc := "(IIIIIIIIIII)D" } : Jvm.MethodName) method_2_code (13 : Nat) (Option.some Jvm.ClassFile.FieldType.double)).before args0 about1 = true := code_word (m := ⟨1, 1⟩) (meth := k1m1) (c := k1c1) (by decide +kernel) rfl rfl rfl (by decide +kernel)
def codes1 : List Jvm.Cond := [Jvm.Cond.code x code maxLocals ret, Jvm.Cond.code ({ cls := "com/example/cranfield/cranfield/search/TermScores", name := "<init>", desc := "(II)V" } : Jvm.MethodName) prog_104_method_1_code (3 : Nat) (Option.none : Option Jvm.ClassFile.FieldType), Jvm.Cond.code ({ cls := "java/lang/Object", name := "<init>", desc := "()V" } : Jvm.MethodName) object_method_1_code (1 : Nat) (Option.none : Option Jvm.ClassFile.FieldType), Jvm.Cond.code ({ cls := "com/example/cranfield/cranfield/search/TermScores", name := "put", desc := "(IIID)V" } : Jvm.MethodName) prog_104_method_2_code (6 : Nat) (Option.none : Option Jvm.ClassFile.FieldType), Jvm.Cond.code ({ cls := "com/example/cranfield/cranfield/search/TermScores", name := "sum", desc := "(II)D" } : Jvm.MethodName) prog_104_method_3_code (6 : Nat) (Option.some Jvm.ClassFile.FieldType.double), Jvm.Cond.code ({ cls := "com/example/cranfield/cranfield/search/TermScoresPutPinLaw", name := "contrib", desc := "(IIIIIIIIIII)D" } : Jvm.MethodName) method_2_code (13 : Nat) (Option.some Jvm.ClassFile.FieldType.double)]
set_option maxRecDepth 65536 in
theorem codes_eq : words1.filter isCode = codes1 := rfl
theorem w_codes : ∀ c ∈ words1.filter isCode, c.before args0 about1 = true := by
  rw [codes_eq]
  intro c hc
  simp only [codes1, List.mem_cons, List.not_mem_nil, or_false] at hc
  rcases hc with rfl | rfl | rfl | rfl | rfl | rfl
  · exact w_c0
  · exact w_c1
  · exact w_c2
  · exact w_c3
  · exact w_c4
  · exact w_c5
set_option maxRecDepth 65536 in
theorem w_t1 : (words1.take 24).all (fun c => isCode c || c.before args0 about1) = true := by decide +kernel
set_option maxRecDepth 65536 in
theorem w_t2 : (words1.drop 24).all (fun c => isCode c || c.before args0 about1) = true := by decide +kernel
theorem w_tables : (allAtoms (Jvm.Cond.code x code maxLocals ret :: tables_1)).before args0 about1 = true := by
  rw [allAtoms_all]
  show words1.all (fun c => c.before args0 about1) = true
  refine all_split ?_ w_codes
  rw [← List.take_append_drop 24 words1, List.all_append, w_t1, w_t2]
  rfl
set_option maxRecDepth 65536 in
theorem w_case : (Jvm.Cond.and given_1 narrow_1).before args0 about1 = true := by decide +kernel
theorem w_applies : (headSpec (Jvm.Cond.code x code maxLocals ret :: tables_1) room_1).applies x e0.platform about1 = true :=
  (Spec.applies_iff w_frames).mpr ⟨w_running, w_runnable, w_alone, w_named, w_hears, w_ripe, w_room, w_tables⟩
theorem atStart : AtStart classFile x code maxLocals ret World_1 tables_1 room_1 Calls_1 rest_1 Pre_1 launch0 p0 e0 about1 theMethod args0 below0 :=
  ⟨lists_1, trivial, launch0.admits_env _ _ _, launch0.least_env, fairChoices_fair.cas, fairChoices_fair.clock, w_frames, w_args, w_heap, w_applies, trivial, trivial, w_case⟩
end start1
theorem witness_1 : WitnessClaimed_1 := ⟨start1.p0, start1.e0, start1.about1, start1.theMethod, start1.args0, start1.below0, start1.atStart⟩
end Jvm.Pilot.@@N@@
