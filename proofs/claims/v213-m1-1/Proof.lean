import JvmDerived
import JvmDerived.Pilot.@@N@@Statement
import JvmDerived.Pilot.@@N@@Code
set_option linter.unusedVariables false
set_option linter.unusedSimpArgs false
@@BLOCK:NumsL.lean.txt@@
namespace Jvm.RoadKit
open Sem ClassFile Op Lib Jvm.Stand Jvm.Free Jvm.LawKit
section New
variable {p : Program} {l : Launch} {e : Env} {R : Room} {s : State} {m : MethodId} {args : Array Value} {below : List Frame} {meth : Method} {c : Code} {T : State} {locs : List Loc} {cells slots : Nat}
theorem retI (X : Stand p l e R s m args below meth c T locs cells slots) (hx : p.tables.exec = Jvm.exec) {pc : Nat} {Ls : Array Slot} {z : Int32} {rest : List Value} (hret : meth.sig.returnType = some .int) (hd : decode c.code pc = .ok (.ireturn, 1)) {fs : List Frame}
    (hl : ∀ (f : JFrame) (acts : List Action), f.method = m → f.locked = none → f.entered = [] → (doReturn e (T.setTop f) acts (some (.int z))).1 = T.setFrames fs) : Steps p.tables e below (T.setTop (mkF m pc Ls (.int z :: rest))) (T.setFrames fs) := by
  have hm' : T.vm.method? m = some meth := X.method'
  have hn : narrow .int (.int z) = .int z := rfl
  show Steps p.tables e below (T.setTop { method := m, pc := pc, locals := Ls, stack := _ :: rest, locked := none }) _
  jvm_step X.here [X.here.top, hx, hd, hm', hret, hn]
  first | (intro acts; rw [hl _ acts rfl rfl rfl]) | rw [hl _ _ rfl rfl rfl]
  exact Steps.refl _
end New
end Jvm.RoadKit
namespace Jvm.Pilot.@@N@@
open Jvm Jvm.ClassFile Sem Op Lib Jvm.Free Jvm.Stand Jvm.LawKit Jvm.RoadKit Bundle Jvm.Pilot.@@N@@.Jvm.D
/-- a body that returns r, makes and writes nothing -/
def QN (h0 : Heap) (n0 : Nat) (v : Option Value) (h : Heap) (L : List Loc) : Prop := v = none ∧ Fr n0 L ∧ h = h0
def QP (r : Value) (h0 : Heap) (n0 : Nat) (v : Option Value) (h : Heap) (L : List Loc) : Prop := v = some r ∧ Fr n0 L ∧ h = h0
theorem own_d_prog_63_method_3_code_0 : decode prog_63_method_3_code 0 = .ok (.iload_n 0, 1) := by decide +kernel
theorem own_d_prog_63_method_3_code_1 : decode prog_63_method_3_code 1 = .ok (.bipush 48, 2) := by decide +kernel
theorem own_d_prog_63_method_3_code_3 : decode prog_63_method_3_code 3 = .ok (.if_icmp .lt 9, 3) := by decide +kernel
theorem own_d_prog_63_method_3_code_12 : decode prog_63_method_3_code 12 = .ok (.iload_n 0, 1) := by decide +kernel
theorem own_d_prog_63_method_3_code_13 : decode prog_63_method_3_code 13 = .ok (.bipush 97, 2) := by decide +kernel
theorem own_d_prog_63_method_3_code_15 : decode prog_63_method_3_code 15 = .ok (.if_icmp .lt 13, 3) := by decide +kernel
theorem own_d_prog_63_method_3_code_28 : decode prog_63_method_3_code 28 = .ok (.iconst 0, 1) := by decide +kernel
theorem own_d_prog_63_method_3_code_29 : decode prog_63_method_3_code 29 = .ok (.ireturn, 1) := by decide +kernel
theorem own_d_prog_63_method_3_code_18 : decode prog_63_method_3_code 18 = .ok (.iload_n 0, 1) := by decide +kernel
theorem own_d_prog_63_method_3_code_19 : decode prog_63_method_3_code 19 = .ok (.bipush 102, 2) := by decide +kernel
theorem own_d_prog_63_method_3_code_21 : decode prog_63_method_3_code 21 = .ok (.if_icmp .gt 7, 3) := by decide +kernel
theorem own_d_prog_63_method_3_code_24 : decode prog_63_method_3_code 24 = .ok (.iconst 1, 1) := by decide +kernel
theorem own_d_prog_63_method_3_code_25 : decode prog_63_method_3_code 25 = .ok (.goto 4, 3) := by decide +kernel
theorem own_d_prog_63_method_3_code_6 : decode prog_63_method_3_code 6 = .ok (.iload_n 0, 1) := by decide +kernel
theorem own_d_prog_63_method_3_code_7 : decode prog_63_method_3_code 7 = .ok (.bipush 57, 2) := by decide +kernel
theorem own_d_prog_63_method_3_code_9 : decode prog_63_method_3_code 9 = .ok (.if_icmp .le 15, 3) := by decide +kernel
theorem own_d_method_2_code_0 : decode method_2_code 0 = .ok (.iload_n 0, 1) := by decide +kernel
theorem own_d_method_2_code_1 : decode method_2_code 1 = .ok (.ifCond .lt 27, 3) := by decide +kernel
theorem own_d_method_2_code_28 : decode method_2_code 28 = .ok (.iload_n 0, 1) := by decide +kernel
theorem own_d_method_2_code_29 : decode method_2_code 29 = .ok (.bipush 64, 2) := by decide +kernel
theorem own_d_method_2_code_31 : decode method_2_code 31 = .ok (.if_icmp .lt 31, 3) := by decide +kernel
theorem own_d_method_2_code_62 : decode method_2_code 62 = .ok (.iconst 0, 1) := by decide +kernel
theorem own_d_method_2_code_63 : decode method_2_code 63 = .ok (.ireturn, 1) := by decide +kernel
theorem own_d_method_2_code_34 : decode method_2_code 34 = .ok (.iload_n 0, 1) := by decide +kernel
theorem own_d_method_2_code_35 : decode method_2_code 35 = .ok (.sipush 128, 3) := by decide +kernel
theorem own_d_method_2_code_38 : decode method_2_code 38 = .ok (.if_icmp .ge 24, 3) := by decide +kernel
theorem own_d_method_2_code_41 : decode method_2_code 41 = .ok (.ldc2_w 11, 3) := by decide +kernel
theorem own_d_method_2_code_44 : decode method_2_code 44 = .ok (.iload_n 0, 1) := by decide +kernel
theorem own_d_method_2_code_45 : decode method_2_code 45 = .ok (.bipush 64, 2) := by decide +kernel
theorem own_d_method_2_code_47 : decode method_2_code 47 = .ok (.isub, 1) := by decide +kernel
theorem own_d_method_2_code_48 : decode method_2_code 48 = .ok (.lushr, 1) := by decide +kernel
theorem own_d_method_2_code_49 : decode method_2_code 49 = .ok (.lconst 1, 1) := by decide +kernel
theorem own_d_method_2_code_50 : decode method_2_code 50 = .ok (.land, 1) := by decide +kernel
theorem own_d_method_2_code_51 : decode method_2_code 51 = .ok (.lconst 0, 1) := by decide +kernel
theorem own_d_method_2_code_52 : decode method_2_code 52 = .ok (.lcmp, 1) := by decide +kernel
theorem own_d_method_2_code_53 : decode method_2_code 53 = .ok (.ifCond .eq 7, 3) := by decide +kernel
theorem own_d_method_2_code_60 : decode method_2_code 60 = .ok (.iconst 0, 1) := by decide +kernel
theorem own_d_method_2_code_61 : decode method_2_code 61 = .ok (.ireturn, 1) := by decide +kernel
theorem own_d_method_2_code_56 : decode method_2_code 56 = .ok (.iconst 1, 1) := by decide +kernel
theorem own_d_method_2_code_57 : decode method_2_code 57 = .ok (.goto 4, 3) := by decide +kernel
theorem own_d_method_2_code_4 : decode method_2_code 4 = .ok (.iload_n 0, 1) := by decide +kernel
theorem own_d_method_2_code_5 : decode method_2_code 5 = .ok (.bipush 64, 2) := by decide +kernel
theorem own_d_method_2_code_7 : decode method_2_code 7 = .ok (.if_icmp .ge 21, 3) := by decide +kernel
theorem own_d_method_2_code_10 : decode method_2_code 10 = .ok (.ldc2_w 9, 3) := by decide +kernel
theorem own_d_method_2_code_13 : decode method_2_code 13 = .ok (.iload_n 0, 1) := by decide +kernel
theorem own_d_method_2_code_14 : decode method_2_code 14 = .ok (.lushr, 1) := by decide +kernel
theorem own_d_method_2_code_15 : decode method_2_code 15 = .ok (.lconst 1, 1) := by decide +kernel
theorem own_d_method_2_code_16 : decode method_2_code 16 = .ok (.land, 1) := by decide +kernel
theorem own_d_method_2_code_17 : decode method_2_code 17 = .ok (.lconst 0, 1) := by decide +kernel
theorem own_d_method_2_code_18 : decode method_2_code 18 = .ok (.lcmp, 1) := by decide +kernel
theorem own_d_method_2_code_19 : decode method_2_code 19 = .ok (.ifCond .eq 7, 3) := by decide +kernel
theorem own_d_method_2_code_26 : decode method_2_code 26 = .ok (.iconst 0, 1) := by decide +kernel
theorem own_d_method_2_code_27 : decode method_2_code 27 = .ok (.ireturn, 1) := by decide +kernel
theorem own_d_method_2_code_22 : decode method_2_code 22 = .ok (.iconst 1, 1) := by decide +kernel
theorem own_d_method_2_code_23 : decode method_2_code 23 = .ok (.goto 4, 3) := by decide +kernel
theorem own_d_jdk_41_method_11_code_0 : decode jdk_41_method_11_code 0 = .ok (.iload_n 0, 1) := by decide +kernel
theorem own_d_jdk_41_method_11_code_1 : decode jdk_41_method_11_code 1 = .ok (.ifCond .lt 8, 3) := by decide +kernel
theorem own_d_jdk_41_method_11_code_4 : decode jdk_41_method_11_code 4 = .ok (.iload_n 0, 1) := by decide +kernel
theorem own_d_jdk_41_method_11_code_5 : decode jdk_41_method_11_code 5 = .ok (.iload_n 1, 1) := by decide +kernel
theorem own_d_jdk_41_method_11_code_6 : decode jdk_41_method_11_code 6 = .ok (.if_icmp .lt 10, 3) := by decide +kernel
theorem own_d_jdk_41_method_11_code_16 : decode jdk_41_method_11_code 16 = .ok (.iload_n 0, 1) := by decide +kernel
theorem own_d_jdk_41_method_11_code_17 : decode jdk_41_method_11_code 17 = .ok (.ireturn, 1) := by decide +kernel
theorem own_d_jdk_42_method_155_code_0 : decode jdk_42_method_155_code 0 = .ok (.iload_n 0, 1) := by decide +kernel
theorem own_d_jdk_42_method_155_code_1 : decode jdk_42_method_155_code 1 = .ok (.iload_n 1, 1) := by decide +kernel
theorem own_d_jdk_42_method_155_code_2 : decode jdk_42_method_155_code 2 = .ok (.getstatic 1053, 3) := by decide +kernel
theorem own_d_jdk_42_method_155_code_5 : decode jdk_42_method_155_code 5 = .ok (.invokestatic 1059, 3) := by decide +kernel
theorem own_d_jdk_42_method_155_code_8 : decode jdk_42_method_155_code 8 = .ok (.pop, 1) := by decide +kernel
theorem own_d_jdk_42_method_155_code_9 : decode jdk_42_method_155_code 9 = .ok (.return_, 1) := by decide +kernel
theorem own_d_jdk_43_method_2_code_0 : decode jdk_43_method_2_code 0 = .ok (.iload_n 1, 1) := by decide +kernel
theorem own_d_jdk_43_method_2_code_1 : decode jdk_43_method_2_code 1 = .ok (.aload_n 0, 1) := by decide +kernel
theorem own_d_jdk_43_method_2_code_2 : decode jdk_43_method_2_code 2 = .ok (.arraylength, 1) := by decide +kernel
theorem own_d_jdk_43_method_2_code_3 : decode jdk_43_method_2_code 3 = .ok (.invokestatic 9, 3) := by decide +kernel
theorem own_d_jdk_43_method_2_code_6 : decode jdk_43_method_2_code 6 = .ok (.aload_n 0, 1) := by decide +kernel
theorem own_d_jdk_43_method_2_code_7 : decode jdk_43_method_2_code 7 = .ok (.iload_n 1, 1) := by decide +kernel
theorem own_d_jdk_43_method_2_code_8 : decode jdk_43_method_2_code 8 = .ok (.baload, 1) := by decide +kernel
theorem own_d_jdk_43_method_2_code_9 : decode jdk_43_method_2_code 9 = .ok (.sipush 255, 3) := by decide +kernel
theorem own_d_jdk_43_method_2_code_12 : decode jdk_43_method_2_code 12 = .ok (.iand, 1) := by decide +kernel
theorem own_d_jdk_43_method_2_code_13 : decode jdk_43_method_2_code 13 = .ok (.i2c, 1) := by decide +kernel
theorem own_d_jdk_43_method_2_code_14 : decode jdk_43_method_2_code 14 = .ok (.ireturn, 1) := by decide +kernel
theorem own_d_jdk_42_method_154_code_0 : decode jdk_42_method_154_code 0 = .ok (.getstatic 38, 3) := by decide +kernel
theorem own_d_jdk_42_method_154_code_3 : decode jdk_42_method_154_code 3 = .ok (.ifCond .eq 14, 3) := by decide +kernel
theorem own_d_jdk_42_method_154_code_6 : decode jdk_42_method_154_code 6 = .ok (.aload_n 0, 1) := by decide +kernel
theorem own_d_jdk_42_method_154_code_7 : decode jdk_42_method_154_code 7 = .ok (.getfield 15, 3) := by decide +kernel
theorem own_d_jdk_42_method_154_code_10 : decode jdk_42_method_154_code 10 = .ok (.ifCond .ne 7, 3) := by decide +kernel
theorem own_d_jdk_42_method_154_code_13 : decode jdk_42_method_154_code 13 = .ok (.iconst 1, 1) := by decide +kernel
theorem own_d_jdk_42_method_154_code_14 : decode jdk_42_method_154_code 14 = .ok (.goto 4, 3) := by decide +kernel
theorem own_d_jdk_42_method_154_code_18 : decode jdk_42_method_154_code 18 = .ok (.ireturn, 1) := by decide +kernel
theorem own_d_jdk_42_method_56_code_0 : decode jdk_42_method_56_code 0 = .ok (.aload_n 0, 1) := by decide +kernel
theorem own_d_jdk_42_method_56_code_1 : decode jdk_42_method_56_code 1 = .ok (.invokevirtual 492, 3) := by decide +kernel
theorem own_d_jdk_42_method_56_code_4 : decode jdk_42_method_56_code 4 = .ok (.ifCond .eq 12, 3) := by decide +kernel
theorem own_d_jdk_42_method_56_code_7 : decode jdk_42_method_56_code 7 = .ok (.aload_n 0, 1) := by decide +kernel
theorem own_d_jdk_42_method_56_code_8 : decode jdk_42_method_56_code 8 = .ok (.getfield 9, 3) := by decide +kernel
theorem own_d_jdk_42_method_56_code_11 : decode jdk_42_method_56_code 11 = .ok (.iload_n 1, 1) := by decide +kernel
theorem own_d_jdk_42_method_56_code_12 : decode jdk_42_method_56_code 12 = .ok (.invokestatic 495, 3) := by decide +kernel
theorem own_d_jdk_42_method_56_code_15 : decode jdk_42_method_56_code 15 = .ok (.ireturn, 1) := by decide +kernel
theorem own_pd0 : parseMethodDescriptor "(IILjava/util/function/BiFunction;)I" = some ⟨[.int, .int, (.object "java/util/function/BiFunction")], some .int⟩ := by decide +kernel
theorem own_pd1 : parseMethodDescriptor "(II)V" = some ⟨[.int, .int], none⟩ := by decide +kernel
theorem own_pd2 : parseMethodDescriptor "()Z" = some ⟨[], some .boolean⟩ := by decide +kernel
theorem own_pd3 : parseMethodDescriptor "([BI)C" = some ⟨[(.array .byte), .int], some .char⟩ := by decide +kernel
theorem own_pd4 : parseMethodDescriptor "(I)Z" = some ⟨[.int], some .boolean⟩ := by decide +kernel
theorem own_pd5 : parseMethodDescriptor "(I)C" = some ⟨[.int], some .char⟩ := by decide +kernel
theorem own_pn0 : plainName "com/example/quillsign/quillsign/sigv4/SigV4" = true := by first | (simp [plainName, overriddenIn]; done) | decide +kernel
theorem own_pn1 : plainName "com/example/quillsign/quillsign/sigv4/SigV4IsSignatureDigitPinLaw" = true := by first | (simp [plainName, overriddenIn]; done) | decide +kernel
theorem own_pn2 : plainName "jdk/internal/util/Preconditions" = true := by first | (simp [plainName, overriddenIn]; done) | decide +kernel
theorem own_pn3 : plainName "java/lang/String" = true := by first | (simp [plainName, overriddenIn]; done) | decide +kernel
theorem own_pn4 : plainName "java/lang/StringLatin1" = true := by first | (simp [plainName, overriddenIn]; done) | decide +kernel
def QL (n0 : Nat) (v : Option Value) (h : Heap) (L : List Loc) : Prop := v = some (.int 1) ∧ Fr n0 L
theorem own_lc0 {a b : Int64} (h : a = b) : lcmpW a b = 0 := (lcW a b).trans ((lc_eq a b).mpr h)
theorem own_lcn {a b : Int64} (h : ¬ a = b) : ¬ lcmpW a b = 0 := fun q => h ((lc_eq a b).mp ((lcW a b).symm.trans q))
theorem own_lclt {a b : Int64} (h : a < b) : lcmpW a b < 0 := (lcW a b).symm ▸ (lc_lt a b).mpr h
theorem own_lcge {a b : Int64} (h : ¬ a < b) : ¬ lcmpW a b < 0 := fun q => h ((lc_lt a b).mp ((lcW a b) ▸ q))
theorem own_lcgt {a b : Int64} (h : b < a) : 0 < lcmpW a b := (lcW a b).symm ▸ (lc_gt a b).mpr h
theorem own_lcle {a b : Int64} (h : ¬ b < a) : ¬ 0 < lcmpW a b := fun q => h ((lc_gt a b).mp ((lcW a b) ▸ q))
theorem own_intv {args : Array Value} {Z : State} {t : Term} {k : Int32} (h : (Cond.eq t (.int k)).value args Z none Z [] = some true) : t.eval args Z none [] Z = some (.int k) := by
  obtain ⟨x, y, e1, e2, -, k2⟩ := cmp_v (Or.inl h)
  have e2' : some (Value.int k) = some y := e2
  cases e2'
  obtain ⟨z, rfl⟩ := k2
  have q := gotT (Cond.eq_ints e1 (Term.int_eval k)) h
  rw [← q]; exact e1
theorem own_fldI {args : Array Value} {Z : State} {t : Term} {C n d : String} {k : Int32} {a : Addr} (ht : t.eval args Z none [] Z = some (.ref a)) (h : (Cond.eq (.field t C n d) (.int k)).value args Z none Z [] = some true) : Fld Z Z.heap a C n d (.int k) :=
  Fld.start ((fld_at ht).symm.trans (own_intv h))
theorem own_cellE {Z : State} {h : Heap} {a : Addr} {C : String} (F : Exa Z h a C) : ∃ cl : Cell, h[a]? = some cl ∧ cl.vm.isStatics = false := by obtain ⟨c, _, h1, -, -, h4, -⟩ := F; exact ⟨c, h1, h4⟩
theorem own_cellV {Z : State} {h : Heap} {a : Addr} {k : ClassId} {ty : FieldType} {n : Int32} {vs : List Value} {d : Value} (F : Arv Z h a k ty n vs d) : ∃ cl : Cell, h[a]? = some cl ∧ cl.vm.isStatics = false := by obtain ⟨c, A, -⟩ := F; exact ⟨c, A.1, A.plain⟩
theorem own_sta_keep {Z : State} {h h' : Heap} {C n d : String} {v : Value} {ws : List Addr} (F : Sta Z h C n d v) (K : Keep h h' ws) (q : ∀ x ∈ ws, ∃ cl : Cell, h[x]? = some cl ∧ cl.vm.isStatics = false) : Sta Z h' C n d v := by
  obtain ⟨cf, i, k, f, st, cell, h1, h2, h3, h4, h5, h6, h7⟩ := F
  refine ⟨cf, i, k, f, st, cell, h1, h2, h3, h4, K.2.1 st cell h5 (fun hm => ?_), h6, h7⟩
  obtain ⟨cl, e1, e2⟩ := q st hm
  cases e1.symm.trans h5
  rw [e2] at h6; cases h6
def own_d2 (p : Int32) : Int32 := if p < (97 : Int32) then 0 else if (102 : Int32) < p then 0 else 1
def own_dig (p : Int32) : Int32 := if p < (48 : Int32) then own_d2 p else if (57 : Int32) < p then own_d2 p else 1
def own_t2 (p : Int32) : Int32 := if p < (64 : Int32) then 0 else if p < (128 : Int32) then (if lcmpW ((((541165879296 : Int64)).toUInt64 >>> ((p - (64 : Int32)) &&& 0x3f).toInt64.toUInt64).toInt64 &&& (1 : Int64)) (0 : Int64) = 0 then 0 else 1) else 0
def own_tab (p : Int32) : Int32 := if p < (0 : Int32) then own_t2 p else if p < (64 : Int32) then (if lcmpW ((((287948901175001088 : Int64)).toUInt64 >>> (p &&& 0x3f).toInt64.toUInt64).toInt64 &&& (1 : Int64)) (0 : Int64) = 0 then 0 else 1) else own_t2 p
theorem own_small : ∀ n, n < 128 → own_dig (Int32.ofNat n) = own_tab (Int32.ofNat n) := by decide +kernel
theorem own_same (p : Int32) : own_dig p = own_tab p := by
  have t0 : (0 : Int32).toInt = 0 := by decide
  have t48 : (48 : Int32).toInt = 48 := by decide
  have t57 : (57 : Int32).toInt = 57 := by decide
  have t64 : (64 : Int32).toInt = 64 := by decide
  have t97 : (97 : Int32).toInt = 97 := by decide
  have t102 : (102 : Int32).toInt = 102 := by decide
  have t128 : (128 : Int32).toInt = 128 := by decide
  have hlt := p.toInt_lt
  by_cases h0 : p.toInt < 0
  · have a1 : p < (48 : Int32) := by rw [Int32.lt_iff_toInt_lt, t48]; omega
    have a2 : p < (97 : Int32) := by rw [Int32.lt_iff_toInt_lt, t97]; omega
    have a3 : p < (0 : Int32) := by rw [Int32.lt_iff_toInt_lt, t0]; omega
    have a4 : p < (64 : Int32) := by rw [Int32.lt_iff_toInt_lt, t64]; omega
    rw [own_dig, if_pos a1, own_d2, if_pos a2, own_tab, if_pos a3, own_t2, if_pos a4]
  · by_cases h1 : p.toInt < 128
    · have e : p = Int32.ofNat p.toInt.toNat := by
        apply Int32.toInt_inj.mp
        rw [Int32.toInt_ofNat_of_lt (by omega)]; omega
      rw [e]; exact own_small _ (by omega)
    · have a1 : ¬ p < (48 : Int32) := by rw [Int32.lt_iff_toInt_lt, t48]; omega
      have a2 : (57 : Int32) < p := by rw [Int32.lt_iff_toInt_lt, t57]; omega
      have a3 : ¬ p < (97 : Int32) := by rw [Int32.lt_iff_toInt_lt, t97]; omega
      have a4 : (102 : Int32) < p := by rw [Int32.lt_iff_toInt_lt, t102]; omega
      have a5 : ¬ p < (0 : Int32) := by rw [Int32.lt_iff_toInt_lt, t0]; omega
      have a6 : ¬ p < (64 : Int32) := by rw [Int32.lt_iff_toInt_lt, t64]; omega
      have a7 : ¬ p < (128 : Int32) := by rw [Int32.lt_iff_toInt_lt, t128]; omega
      rw [own_dig, if_neg a1, if_pos a2, own_d2, if_neg a3, if_pos a4, own_tab, if_neg a5, if_neg a6, own_t2, if_neg a6, if_neg a7]
def own_cs : List Int32 := [48, 49, 50, 51, 52, 53, 54, 55, 56, 57, 97, 98, 99, 100, 101, 102]
theorem own_each : ∀ i, i < 16 → own_dig (own_cs.getD i 0) = 1 := by decide +kernel
theorem own_idx (d : Int32) : ∃ i, i < 16 ∧ (d &&& (15 : Int32)) = Int32.ofNat i := by
  have e1 : (d &&& 15).toInt = d.toInt % 2 ^ 4 := Jvm.Kit.i32_mask d 15 (k := 4) (by decide) (by decide)
  refine ⟨(d.toInt % 2 ^ 4).toNat, by omega, ?_⟩
  apply Int32.toInt_inj.mp
  rw [Int32.toInt_ofNat_of_lt (by omega), e1]; omega
theorem own_in0 : ∀ i, i < 16 → ¬ (Int32.ofNat i) < 0 ∧ (Int32.ofNat i) < (Int32.ofNat 16) := by decide +kernel
theorem own_in {d : Int32} {i : Nat} (h : i < 16) (e : d = Int32.ofNat i) : ¬ d < 0 ∧ d < (Int32.ofNat 16) := e ▸ own_in0 i h
theorem own_val0 : ∀ i, i < 16 → (own_cs.map Value.int).getD (Int32.ofNat i).toNatClampNeg (.int 0) = .int (own_cs.getD i 0) := by decide +kernel
theorem own_val {d : Int32} {i : Nat} (h : i < 16) (e : d = Int32.ofNat i) : (own_cs.map Value.int).getD d.toNatClampNeg (.int 0) = .int (own_cs.getD i 0) := e ▸ own_val0 i h
theorem own_res1 : ∀ i, i < 16 → nar .char (((own_cs.getD i 0) &&& (255 : Int32)).toUInt32.toUInt16.toUInt32.toInt32) = own_cs.getD i 0 := by decide +kernel
theorem own_res2 : ∀ i, i < 16 → nar .char (own_cs.getD i 0) = own_cs.getD i 0 := by decide +kernel
theorem own_ef_rm1 (m : MethodId) (y0 : Int32) : entryFrame m #[(.int y0)] 1 = mkF m 0 #[.val (.int y0)] [] := by first | (simp [entryFrame, mkF, argsToLocals, Value.category]; done) | rfl
set_option maxRecDepth 65536 in
set_option maxHeartbeats 40000000 in
theorem rm1 (l : Launch) (Z : State) (a0 : Array Value) (hw : ∀ d ∈ tables_1, d.before a0 Z = true) (ws : List Jvm.Cond) (p1 : Int32) (h0 : Heap) (n0 : Nat) (Z0 : n0 ≤ h0.size)  :
    MetFree l (⟨"com/example/quillsign/quillsign/sigv4/SigV4", "isSignatureDigit", "(I)Z"⟩ : MethodName) (head1 (Jvm.Cond.code (⟨"com/example/quillsign/quillsign/sigv4/SigV4", "isSignatureDigit", "(I)Z"⟩ : MethodName) prog_63_method_3_code 1 (some .boolean) :: ws) ({ frames := 0, cells := 0, slots := 0, locals := 0 } : Room)) (fun ar_ U => ar_ = #[(.int p1)] ∧ Z.Warmed39 U.vm ∧ U.heap = h0) (fun _ _ _ _ _ => True) (fun _ U o U' => ∃ v L, o = .returned v ∧ QP (.int (own_dig p1)) h0 n0 v U'.heap L ∧ FrameEnd U o U' L ({ frames := 0, cells := 0, slots := 0, locals := 0 } : Room).cells ({ frames := 0, cells := 0, slots := 0, locals := 0 } : Room).slots) := by
  refine MetFree.of_bodySF (plainFor_of_name own_pn0) hisR ?_
  intro p e s m args below meth c s₁ Bd hml0 hP hK
  obtain ⟨rfl, hZ, hh⟩ := hP
  have hx := Bd.exec
  have hby := Bd.bytes
  have hml : c.maxLocals = 1 := hml0
  have hown : s.vm.findClass "com/example/quillsign/quillsign/sigv4/SigV4" = some m.cls := findClass_of_methodNamed Bd.named
  have hnm := (name_of_methodNamed Bd.named Bd.method).1
  have X0 : Stand p l e ({ frames := 0, cells := 0, slots := 0, locals := 0 } : Room) s m #[(.int p1)] below meth c s₁ [] 0 0 := Stand.of_body Bd
  have e0 : s₁.heap = h0 := by rw [← hh, Bd.state]; rfl
  have N0 := Fr.nil n0
  have pre0 : ∀ tt_, Steps p.tables e below (s₁.setTop (mkF m 0 #[.val (.int p1)] [])) tt_ → Steps p.tables e below (s₁.setTop (entryFrame m #[(.int p1)] 1)) tt_ := fun tt_ kk_ => castTop (own_ef_rm1 m p1) kk_
  have pre1 : ∀ tt_, Steps p.tables e below (s₁.setTop (mkF m 3 #[.val (.int p1)] [(.int (48 : Int32)), (.int p1)])) tt_ → Steps p.tables e below (s₁.setTop (entryFrame m #[(.int p1)] 1)) tt_ := fun tt_ kk_ => pre0 tt_ (by
    show Steps p.tables e below (s₁.setTop (mkF m 0 #[.val (.int p1)] [])) _
    refine XS.iloadN X0.here hx rfl (hb hby own_d_prog_63_method_3_code_0) rfl ?_
    show Steps p.tables e below (s₁.setTop (mkF m 1 #[.val (.int p1)] [(.int p1)])) _
    refine XS.bipush X0.here hx rfl (hb hby own_d_prog_63_method_3_code_1) ?_
    exact kk_)
  by_cases h48 : p1 < (48 : Int32)
  · have pre2 : ∀ tt_, Steps p.tables e below (s₁.setTop (mkF m 15 #[.val (.int p1)] [(.int (97 : Int32)), (.int p1)])) tt_ → Steps p.tables e below (s₁.setTop (entryFrame m #[(.int p1)] 1)) tt_ := fun tt_ kk_ => pre1 tt_ (by
      show Steps p.tables e below (s₁.setTop (mkF m 3 #[.val (.int p1)] [(.int (48 : Int32)), (.int p1)])) _
      refine XS.icmpYes X0.here hx rfl (pc0 := 3) (pc' := 12) rfl (hb hby own_d_prog_63_method_3_code_3) rfl (tlt (h48 : p1 < (48 : Int32))).1 (by decide) (by decide) ?_
      show Steps p.tables e below (s₁.setTop (mkF m 12 #[.val (.int p1)] [])) _
      refine XS.iloadN X0.here hx rfl (hb hby own_d_prog_63_method_3_code_12) rfl ?_
      show Steps p.tables e below (s₁.setTop (mkF m 13 #[.val (.int p1)] [(.int p1)])) _
      refine XS.bipush X0.here hx rfl (hb hby own_d_prog_63_method_3_code_13) ?_
      exact kk_)
    by_cases h97 : p1 < (97 : Int32)
    · have pre3 : ∀ tt_, Steps p.tables e below (s₁.setTop (mkF m 29 #[.val (.int p1)] [(.int (0 : Int32))])) tt_ → Steps p.tables e below (s₁.setTop (entryFrame m #[(.int p1)] 1)) tt_ := fun tt_ kk_ => pre2 tt_ (by
        show Steps p.tables e below (s₁.setTop (mkF m 15 #[.val (.int p1)] [(.int (97 : Int32)), (.int p1)])) _
        refine XS.icmpYes X0.here hx rfl (pc0 := 15) (pc' := 28) rfl (hb hby own_d_prog_63_method_3_code_15) rfl (tlt (h97 : p1 < (97 : Int32))).1 (by decide) (by decide) ?_
        show Steps p.tables e below (s₁.setTop (mkF m 28 #[.val (.int p1)] [])) _
        refine XS.iconst X0.here hx rfl (hb hby own_d_prog_63_method_3_code_28) ?_
        exact kk_)
      obtain ⟨fs, hr, hrun, hended, hW, hsame⟩ := X0.leave (v := some (.int (nar .boolean (0 : Int32)))) (fun h => by rw [Bd.returns] at h; cases h)
      refine ⟨_, _, pre3 _ ?_, hrun, hended, _, _, rfl, ?_, ⟨_, rfl⟩, hW, hsame.mono (by decide) (by decide)⟩
      · show Steps p.tables e below (s₁.setTop (mkF m 29 #[.val (.int p1)] [(.int (0 : Int32))])) _
        exact retN X0 hx (t := .boolean) Bd.returns (by simp) (hb hby own_d_prog_63_method_3_code_29) hr
      · show QP (.int (own_dig p1)) h0 n0 _ s₁.heap _
        rw [e0]
        exact ⟨by rw [own_dig, if_pos h48]; rw [own_d2, if_pos h97]; rfl, N0, rfl⟩
    · have pre4 : ∀ tt_, Steps p.tables e below (s₁.setTop (mkF m 21 #[.val (.int p1)] [(.int (102 : Int32)), (.int p1)])) tt_ → Steps p.tables e below (s₁.setTop (entryFrame m #[(.int p1)] 1)) tt_ := fun tt_ kk_ => pre2 tt_ (by
        show Steps p.tables e below (s₁.setTop (mkF m 15 #[.val (.int p1)] [(.int (97 : Int32)), (.int p1)])) _
        refine XS.icmpNo X0.here hx rfl (hb hby own_d_prog_63_method_3_code_15) rfl (flt (h97 : ¬ (p1 < (97 : Int32)))).1 ?_
        show Steps p.tables e below (s₁.setTop (mkF m 18 #[.val (.int p1)] [])) _
        refine XS.iloadN X0.here hx rfl (hb hby own_d_prog_63_method_3_code_18) rfl ?_
        show Steps p.tables e below (s₁.setTop (mkF m 19 #[.val (.int p1)] [(.int p1)])) _
        refine XS.bipush X0.here hx rfl (hb hby own_d_prog_63_method_3_code_19) ?_
        exact kk_)
      by_cases h102 : (102 : Int32) < p1
      · have pre5 : ∀ tt_, Steps p.tables e below (s₁.setTop (mkF m 29 #[.val (.int p1)] [(.int (0 : Int32))])) tt_ → Steps p.tables e below (s₁.setTop (entryFrame m #[(.int p1)] 1)) tt_ := fun tt_ kk_ => pre4 tt_ (by
          show Steps p.tables e below (s₁.setTop (mkF m 21 #[.val (.int p1)] [(.int (102 : Int32)), (.int p1)])) _
          refine XS.icmpYes X0.here hx rfl (pc0 := 21) (pc' := 28) rfl (hb hby own_d_prog_63_method_3_code_21) rfl (tlt (h102 : (102 : Int32) < p1)).2.2.1 (by decide) (by decide) ?_
          show Steps p.tables e below (s₁.setTop (mkF m 28 #[.val (.int p1)] [])) _
          refine XS.iconst X0.here hx rfl (hb hby own_d_prog_63_method_3_code_28) ?_
          exact kk_)
        obtain ⟨fs, hr, hrun, hended, hW, hsame⟩ := X0.leave (v := some (.int (nar .boolean (0 : Int32)))) (fun h => by rw [Bd.returns] at h; cases h)
        refine ⟨_, _, pre5 _ ?_, hrun, hended, _, _, rfl, ?_, ⟨_, rfl⟩, hW, hsame.mono (by decide) (by decide)⟩
        · show Steps p.tables e below (s₁.setTop (mkF m 29 #[.val (.int p1)] [(.int (0 : Int32))])) _
          exact retN X0 hx (t := .boolean) Bd.returns (by simp) (hb hby own_d_prog_63_method_3_code_29) hr
        · show QP (.int (own_dig p1)) h0 n0 _ s₁.heap _
          rw [e0]
          exact ⟨by rw [own_dig, if_pos h48]; rw [own_d2, if_neg h97, if_pos h102]; rfl, N0, rfl⟩
      · have pre6 : ∀ tt_, Steps p.tables e below (s₁.setTop (mkF m 29 #[.val (.int p1)] [(.int (1 : Int32))])) tt_ → Steps p.tables e below (s₁.setTop (entryFrame m #[(.int p1)] 1)) tt_ := fun tt_ kk_ => pre4 tt_ (by
          show Steps p.tables e below (s₁.setTop (mkF m 21 #[.val (.int p1)] [(.int (102 : Int32)), (.int p1)])) _
          refine XS.icmpNo X0.here hx rfl (hb hby own_d_prog_63_method_3_code_21) rfl (flt (h102 : ¬ ((102 : Int32) < p1))).2.2.1 ?_
          show Steps p.tables e below (s₁.setTop (mkF m 24 #[.val (.int p1)] [])) _
          refine XS.iconst X0.here hx rfl (hb hby own_d_prog_63_method_3_code_24) ?_
          show Steps p.tables e below (s₁.setTop (mkF m 25 #[.val (.int p1)] [(.int (1 : Int32))])) _
          refine XS.goto X0.here hx rfl (pc0 := 25) (pc' := 29) rfl (hb hby own_d_prog_63_method_3_code_25) (by decide) (by decide) ?_
          exact kk_)
        obtain ⟨fs, hr, hrun, hended, hW, hsame⟩ := X0.leave (v := some (.int (nar .boolean (1 : Int32)))) (fun h => by rw [Bd.returns] at h; cases h)
        refine ⟨_, _, pre6 _ ?_, hrun, hended, _, _, rfl, ?_, ⟨_, rfl⟩, hW, hsame.mono (by decide) (by decide)⟩
        · show Steps p.tables e below (s₁.setTop (mkF m 29 #[.val (.int p1)] [(.int (1 : Int32))])) _
          exact retN X0 hx (t := .boolean) Bd.returns (by simp) (hb hby own_d_prog_63_method_3_code_29) hr
        · show QP (.int (own_dig p1)) h0 n0 _ s₁.heap _
          rw [e0]
          exact ⟨by rw [own_dig, if_pos h48]; rw [own_d2, if_neg h97, if_neg h102]; rfl, N0, rfl⟩
  · have pre7 : ∀ tt_, Steps p.tables e below (s₁.setTop (mkF m 9 #[.val (.int p1)] [(.int (57 : Int32)), (.int p1)])) tt_ → Steps p.tables e below (s₁.setTop (entryFrame m #[(.int p1)] 1)) tt_ := fun tt_ kk_ => pre1 tt_ (by
      show Steps p.tables e below (s₁.setTop (mkF m 3 #[.val (.int p1)] [(.int (48 : Int32)), (.int p1)])) _
      refine XS.icmpNo X0.here hx rfl (hb hby own_d_prog_63_method_3_code_3) rfl (flt (h48 : ¬ (p1 < (48 : Int32)))).1 ?_
      show Steps p.tables e below (s₁.setTop (mkF m 6 #[.val (.int p1)] [])) _
      refine XS.iloadN X0.here hx rfl (hb hby own_d_prog_63_method_3_code_6) rfl ?_
      show Steps p.tables e below (s₁.setTop (mkF m 7 #[.val (.int p1)] [(.int p1)])) _
      refine XS.bipush X0.here hx rfl (hb hby own_d_prog_63_method_3_code_7) ?_
      exact kk_)
    by_cases h57 : (57 : Int32) < p1
    · have pre8 : ∀ tt_, Steps p.tables e below (s₁.setTop (mkF m 15 #[.val (.int p1)] [(.int (97 : Int32)), (.int p1)])) tt_ → Steps p.tables e below (s₁.setTop (entryFrame m #[(.int p1)] 1)) tt_ := fun tt_ kk_ => pre7 tt_ (by
        show Steps p.tables e below (s₁.setTop (mkF m 9 #[.val (.int p1)] [(.int (57 : Int32)), (.int p1)])) _
        refine XS.icmpNo X0.here hx rfl (hb hby own_d_prog_63_method_3_code_9) rfl (tlt (h57 : (57 : Int32) < p1)).2.2.2 ?_
        show Steps p.tables e below (s₁.setTop (mkF m 12 #[.val (.int p1)] [])) _
        refine XS.iloadN X0.here hx rfl (hb hby own_d_prog_63_method_3_code_12) rfl ?_
        show Steps p.tables e below (s₁.setTop (mkF m 13 #[.val (.int p1)] [(.int p1)])) _
        refine XS.bipush X0.here hx rfl (hb hby own_d_prog_63_method_3_code_13) ?_
        exact kk_)
      by_cases h97 : p1 < (97 : Int32)
      · have pre9 : ∀ tt_, Steps p.tables e below (s₁.setTop (mkF m 29 #[.val (.int p1)] [(.int (0 : Int32))])) tt_ → Steps p.tables e below (s₁.setTop (entryFrame m #[(.int p1)] 1)) tt_ := fun tt_ kk_ => pre8 tt_ (by
          show Steps p.tables e below (s₁.setTop (mkF m 15 #[.val (.int p1)] [(.int (97 : Int32)), (.int p1)])) _
          refine XS.icmpYes X0.here hx rfl (pc0 := 15) (pc' := 28) rfl (hb hby own_d_prog_63_method_3_code_15) rfl (tlt (h97 : p1 < (97 : Int32))).1 (by decide) (by decide) ?_
          show Steps p.tables e below (s₁.setTop (mkF m 28 #[.val (.int p1)] [])) _
          refine XS.iconst X0.here hx rfl (hb hby own_d_prog_63_method_3_code_28) ?_
          exact kk_)
        obtain ⟨fs, hr, hrun, hended, hW, hsame⟩ := X0.leave (v := some (.int (nar .boolean (0 : Int32)))) (fun h => by rw [Bd.returns] at h; cases h)
        refine ⟨_, _, pre9 _ ?_, hrun, hended, _, _, rfl, ?_, ⟨_, rfl⟩, hW, hsame.mono (by decide) (by decide)⟩
        · show Steps p.tables e below (s₁.setTop (mkF m 29 #[.val (.int p1)] [(.int (0 : Int32))])) _
          exact retN X0 hx (t := .boolean) Bd.returns (by simp) (hb hby own_d_prog_63_method_3_code_29) hr
        · show QP (.int (own_dig p1)) h0 n0 _ s₁.heap _
          rw [e0]
          exact ⟨by rw [own_dig, if_neg h48, if_pos h57]; rw [own_d2, if_pos h97]; rfl, N0, rfl⟩
      · have pre10 : ∀ tt_, Steps p.tables e below (s₁.setTop (mkF m 21 #[.val (.int p1)] [(.int (102 : Int32)), (.int p1)])) tt_ → Steps p.tables e below (s₁.setTop (entryFrame m #[(.int p1)] 1)) tt_ := fun tt_ kk_ => pre8 tt_ (by
          show Steps p.tables e below (s₁.setTop (mkF m 15 #[.val (.int p1)] [(.int (97 : Int32)), (.int p1)])) _
          refine XS.icmpNo X0.here hx rfl (hb hby own_d_prog_63_method_3_code_15) rfl (flt (h97 : ¬ (p1 < (97 : Int32)))).1 ?_
          show Steps p.tables e below (s₁.setTop (mkF m 18 #[.val (.int p1)] [])) _
          refine XS.iloadN X0.here hx rfl (hb hby own_d_prog_63_method_3_code_18) rfl ?_
          show Steps p.tables e below (s₁.setTop (mkF m 19 #[.val (.int p1)] [(.int p1)])) _
          refine XS.bipush X0.here hx rfl (hb hby own_d_prog_63_method_3_code_19) ?_
          exact kk_)
        by_cases h102 : (102 : Int32) < p1
        · have pre11 : ∀ tt_, Steps p.tables e below (s₁.setTop (mkF m 29 #[.val (.int p1)] [(.int (0 : Int32))])) tt_ → Steps p.tables e below (s₁.setTop (entryFrame m #[(.int p1)] 1)) tt_ := fun tt_ kk_ => pre10 tt_ (by
            show Steps p.tables e below (s₁.setTop (mkF m 21 #[.val (.int p1)] [(.int (102 : Int32)), (.int p1)])) _
            refine XS.icmpYes X0.here hx rfl (pc0 := 21) (pc' := 28) rfl (hb hby own_d_prog_63_method_3_code_21) rfl (tlt (h102 : (102 : Int32) < p1)).2.2.1 (by decide) (by decide) ?_
            show Steps p.tables e below (s₁.setTop (mkF m 28 #[.val (.int p1)] [])) _
            refine XS.iconst X0.here hx rfl (hb hby own_d_prog_63_method_3_code_28) ?_
            exact kk_)
          obtain ⟨fs, hr, hrun, hended, hW, hsame⟩ := X0.leave (v := some (.int (nar .boolean (0 : Int32)))) (fun h => by rw [Bd.returns] at h; cases h)
          refine ⟨_, _, pre11 _ ?_, hrun, hended, _, _, rfl, ?_, ⟨_, rfl⟩, hW, hsame.mono (by decide) (by decide)⟩
          · show Steps p.tables e below (s₁.setTop (mkF m 29 #[.val (.int p1)] [(.int (0 : Int32))])) _
            exact retN X0 hx (t := .boolean) Bd.returns (by simp) (hb hby own_d_prog_63_method_3_code_29) hr
          · show QP (.int (own_dig p1)) h0 n0 _ s₁.heap _
            rw [e0]
            exact ⟨by rw [own_dig, if_neg h48, if_pos h57]; rw [own_d2, if_neg h97, if_pos h102]; rfl, N0, rfl⟩
        · have pre12 : ∀ tt_, Steps p.tables e below (s₁.setTop (mkF m 29 #[.val (.int p1)] [(.int (1 : Int32))])) tt_ → Steps p.tables e below (s₁.setTop (entryFrame m #[(.int p1)] 1)) tt_ := fun tt_ kk_ => pre10 tt_ (by
            show Steps p.tables e below (s₁.setTop (mkF m 21 #[.val (.int p1)] [(.int (102 : Int32)), (.int p1)])) _
            refine XS.icmpNo X0.here hx rfl (hb hby own_d_prog_63_method_3_code_21) rfl (flt (h102 : ¬ ((102 : Int32) < p1))).2.2.1 ?_
            show Steps p.tables e below (s₁.setTop (mkF m 24 #[.val (.int p1)] [])) _
            refine XS.iconst X0.here hx rfl (hb hby own_d_prog_63_method_3_code_24) ?_
            show Steps p.tables e below (s₁.setTop (mkF m 25 #[.val (.int p1)] [(.int (1 : Int32))])) _
            refine XS.goto X0.here hx rfl (pc0 := 25) (pc' := 29) rfl (hb hby own_d_prog_63_method_3_code_25) (by decide) (by decide) ?_
            exact kk_)
          obtain ⟨fs, hr, hrun, hended, hW, hsame⟩ := X0.leave (v := some (.int (nar .boolean (1 : Int32)))) (fun h => by rw [Bd.returns] at h; cases h)
          refine ⟨_, _, pre12 _ ?_, hrun, hended, _, _, rfl, ?_, ⟨_, rfl⟩, hW, hsame.mono (by decide) (by decide)⟩
          · show Steps p.tables e below (s₁.setTop (mkF m 29 #[.val (.int p1)] [(.int (1 : Int32))])) _
            exact retN X0 hx (t := .boolean) Bd.returns (by simp) (hb hby own_d_prog_63_method_3_code_29) hr
          · show QP (.int (own_dig p1)) h0 n0 _ s₁.heap _
            rw [e0]
            exact ⟨by rw [own_dig, if_neg h48, if_pos h57]; rw [own_d2, if_neg h97, if_neg h102]; rfl, N0, rfl⟩
    · have pre13 : ∀ tt_, Steps p.tables e below (s₁.setTop (mkF m 29 #[.val (.int p1)] [(.int (1 : Int32))])) tt_ → Steps p.tables e below (s₁.setTop (entryFrame m #[(.int p1)] 1)) tt_ := fun tt_ kk_ => pre7 tt_ (by
        show Steps p.tables e below (s₁.setTop (mkF m 9 #[.val (.int p1)] [(.int (57 : Int32)), (.int p1)])) _
        refine XS.icmpYes X0.here hx rfl (pc0 := 9) (pc' := 24) rfl (hb hby own_d_prog_63_method_3_code_9) rfl (flt (h57 : ¬ ((57 : Int32) < p1))).2.2.2 (by decide) (by decide) ?_
        show Steps p.tables e below (s₁.setTop (mkF m 24 #[.val (.int p1)] [])) _
        refine XS.iconst X0.here hx rfl (hb hby own_d_prog_63_method_3_code_24) ?_
        show Steps p.tables e below (s₁.setTop (mkF m 25 #[.val (.int p1)] [(.int (1 : Int32))])) _
        refine XS.goto X0.here hx rfl (pc0 := 25) (pc' := 29) rfl (hb hby own_d_prog_63_method_3_code_25) (by decide) (by decide) ?_
        exact kk_)
      obtain ⟨fs, hr, hrun, hended, hW, hsame⟩ := X0.leave (v := some (.int (nar .boolean (1 : Int32)))) (fun h => by rw [Bd.returns] at h; cases h)
      refine ⟨_, _, pre13 _ ?_, hrun, hended, _, _, rfl, ?_, ⟨_, rfl⟩, hW, hsame.mono (by decide) (by decide)⟩
      · show Steps p.tables e below (s₁.setTop (mkF m 29 #[.val (.int p1)] [(.int (1 : Int32))])) _
        exact retN X0 hx (t := .boolean) Bd.returns (by simp) (hb hby own_d_prog_63_method_3_code_29) hr
      · show QP (.int (own_dig p1)) h0 n0 _ s₁.heap _
        rw [e0]
        exact ⟨by rw [own_dig, if_neg h48, if_neg h57]; rfl, N0, rfl⟩
theorem own_ef_rm2 (m : MethodId) (y0 : Int32) : entryFrame m #[(.int y0)] 1 = mkF m 0 #[.val (.int y0)] [] := by first | (simp [entryFrame, mkF, argsToLocals, Value.category]; done) | rfl
set_option maxRecDepth 65536 in
set_option maxHeartbeats 40000000 in
theorem rm2 (l : Launch) (Z : State) (a0 : Array Value) (hw : ∀ d ∈ tables_1, d.before a0 Z = true) (ws : List Jvm.Cond) (p1 : Int32) (h0 : Heap) (n0 : Nat) (Z0 : n0 ≤ h0.size)  :
    MetFree l (⟨"com/example/quillsign/quillsign/sigv4/SigV4IsSignatureDigitPinLaw", "inTable", "(I)Z"⟩ : MethodName) (head1 (Jvm.Cond.code (⟨"com/example/quillsign/quillsign/sigv4/SigV4IsSignatureDigitPinLaw", "inTable", "(I)Z"⟩ : MethodName) method_2_code 1 (some .boolean) :: ws) ({ frames := 0, cells := 0, slots := 0, locals := 0 } : Room)) (fun ar_ U => ar_ = #[(.int p1)] ∧ Z.Warmed39 U.vm ∧ U.heap = h0) (fun _ _ _ _ _ => True) (fun _ U o U' => ∃ v L, o = .returned v ∧ QP (.int (own_tab p1)) h0 n0 v U'.heap L ∧ FrameEnd U o U' L ({ frames := 0, cells := 0, slots := 0, locals := 0 } : Room).cells ({ frames := 0, cells := 0, slots := 0, locals := 0 } : Room).slots) := by
  refine MetFree.of_bodySF (plainFor_of_name own_pn1) hisR ?_
  intro p e s m args below meth c s₁ Bd hml0 hP hK
  obtain ⟨rfl, hZ, hh⟩ := hP
  have hx := Bd.exec
  have hby := Bd.bytes
  have hml : c.maxLocals = 1 := hml0
  have hown : s.vm.findClass "com/example/quillsign/quillsign/sigv4/SigV4IsSignatureDigitPinLaw" = some m.cls := findClass_of_methodNamed Bd.named
  have hnm := (name_of_methodNamed Bd.named Bd.method).1
  have X0 : Stand p l e ({ frames := 0, cells := 0, slots := 0, locals := 0 } : Room) s m #[(.int p1)] below meth c s₁ [] 0 0 := Stand.of_body Bd
  have e0 : s₁.heap = h0 := by rw [← hh, Bd.state]; rfl
  have N0 := Fr.nil n0
  have pre0 : ∀ tt_, Steps p.tables e below (s₁.setTop (mkF m 0 #[.val (.int p1)] [])) tt_ → Steps p.tables e below (s₁.setTop (entryFrame m #[(.int p1)] 1)) tt_ := fun tt_ kk_ => castTop (own_ef_rm2 m p1) kk_
  have pre1 : ∀ tt_, Steps p.tables e below (s₁.setTop (mkF m 1 #[.val (.int p1)] [(.int p1)])) tt_ → Steps p.tables e below (s₁.setTop (entryFrame m #[(.int p1)] 1)) tt_ := fun tt_ kk_ => pre0 tt_ (by
    show Steps p.tables e below (s₁.setTop (mkF m 0 #[.val (.int p1)] [])) _
    refine XS.iloadN X0.here hx rfl (hb hby own_d_method_2_code_0) rfl ?_
    exact kk_)
  by_cases hneg : p1 < (0 : Int32)
  · have pre2 : ∀ tt_, Steps p.tables e below (s₁.setTop (mkF m 31 #[.val (.int p1)] [(.int (64 : Int32)), (.int p1)])) tt_ → Steps p.tables e below (s₁.setTop (entryFrame m #[(.int p1)] 1)) tt_ := fun tt_ kk_ => pre1 tt_ (by
      show Steps p.tables e below (s₁.setTop (mkF m 1 #[.val (.int p1)] [(.int p1)])) _
      refine XS.ifYes X0.here hx rfl (pc0 := 1) (pc' := 28) rfl (hb hby own_d_method_2_code_1) rfl ((if0 _ _).trans (tlt (hneg : p1 < (0 : Int32))).1) (by decide) (by decide) ?_
      show Steps p.tables e below (s₁.setTop (mkF m 28 #[.val (.int p1)] [])) _
      refine XS.iloadN X0.here hx rfl (hb hby own_d_method_2_code_28) rfl ?_
      show Steps p.tables e below (s₁.setTop (mkF m 29 #[.val (.int p1)] [(.int p1)])) _
      refine XS.bipush X0.here hx rfl (hb hby own_d_method_2_code_29) ?_
      exact kk_)
    by_cases g64 : p1 < (64 : Int32)
    · have pre3 : ∀ tt_, Steps p.tables e below (s₁.setTop (mkF m 63 #[.val (.int p1)] [(.int (0 : Int32))])) tt_ → Steps p.tables e below (s₁.setTop (entryFrame m #[(.int p1)] 1)) tt_ := fun tt_ kk_ => pre2 tt_ (by
        show Steps p.tables e below (s₁.setTop (mkF m 31 #[.val (.int p1)] [(.int (64 : Int32)), (.int p1)])) _
        refine XS.icmpYes X0.here hx rfl (pc0 := 31) (pc' := 62) rfl (hb hby own_d_method_2_code_31) rfl (tlt (g64 : p1 < (64 : Int32))).1 (by decide) (by decide) ?_
        show Steps p.tables e below (s₁.setTop (mkF m 62 #[.val (.int p1)] [])) _
        refine XS.iconst X0.here hx rfl (hb hby own_d_method_2_code_62) ?_
        exact kk_)
      obtain ⟨fs, hr, hrun, hended, hW, hsame⟩ := X0.leave (v := some (.int (nar .boolean (0 : Int32)))) (fun h => by rw [Bd.returns] at h; cases h)
      refine ⟨_, _, pre3 _ ?_, hrun, hended, _, _, rfl, ?_, ⟨_, rfl⟩, hW, hsame.mono (by decide) (by decide)⟩
      · show Steps p.tables e below (s₁.setTop (mkF m 63 #[.val (.int p1)] [(.int (0 : Int32))])) _
        exact retN X0 hx (t := .boolean) Bd.returns (by simp) (hb hby own_d_method_2_code_63) hr
      · show QP (.int (own_tab p1)) h0 n0 _ s₁.heap _
        rw [e0]
        exact ⟨by rw [own_tab, if_pos hneg]; rw [own_t2, if_pos g64]; rfl, N0, rfl⟩
    · have pre4 : ∀ tt_, Steps p.tables e below (s₁.setTop (mkF m 38 #[.val (.int p1)] [(.int (128 : Int32)), (.int p1)])) tt_ → Steps p.tables e below (s₁.setTop (entryFrame m #[(.int p1)] 1)) tt_ := fun tt_ kk_ => pre2 tt_ (by
        show Steps p.tables e below (s₁.setTop (mkF m 31 #[.val (.int p1)] [(.int (64 : Int32)), (.int p1)])) _
        refine XS.icmpNo X0.here hx rfl (hb hby own_d_method_2_code_31) rfl (flt (g64 : ¬ (p1 < (64 : Int32)))).1 ?_
        show Steps p.tables e below (s₁.setTop (mkF m 34 #[.val (.int p1)] [])) _
        refine XS.iloadN X0.here hx rfl (hb hby own_d_method_2_code_34) rfl ?_
        show Steps p.tables e below (s₁.setTop (mkF m 35 #[.val (.int p1)] [(.int p1)])) _
        refine XS.sipush X0.here hx rfl (hb hby own_d_method_2_code_35) ?_
        exact kk_)
      by_cases g128 : p1 < (128 : Int32)
      · have pre5 : ∀ tt_, Steps p.tables e below (s₁.setTop (mkF m 53 #[.val (.int p1)] [(.int (lcmpW ((((541165879296 : Int64).toUInt64 >>> ((p1 - (64 : Int32)) &&& 0x3f).toInt64.toUInt64).toInt64) &&& (1 : Int64)) (0 : Int64)))])) tt_ → Steps p.tables e below (s₁.setTop (entryFrame m #[(.int p1)] 1)) tt_ := fun tt_ kk_ => pre4 tt_ (by
          show Steps p.tables e below (s₁.setTop (mkF m 38 #[.val (.int p1)] [(.int (128 : Int32)), (.int p1)])) _
          refine XS.icmpNo X0.here hx rfl (hb hby own_d_method_2_code_38) rfl (tlt (g128 : p1 < (128 : Int32))).2.1 ?_
          show Steps p.tables e below (s₁.setTop (mkF m 41 #[.val (.int p1)] [])) _
          refine X0.ldc2Long hx hown (mvT hZ (hw _ (List.mem_of_getElem? (i := 43) rfl))) (g := (mkF m 41 #[.val (.int p1)] [])) rfl (hb hby own_d_method_2_code_41) _ ?_
          show Steps p.tables e below (s₁.setTop (mkF m 44 #[.val (.int p1)] [(.long (541165879296 : Int64))])) _
          refine XS.iloadN X0.here hx rfl (hb hby own_d_method_2_code_44) rfl ?_
          show Steps p.tables e below (s₁.setTop (mkF m 45 #[.val (.int p1)] [(.int p1), (.long (541165879296 : Int64))])) _
          refine XS.bipush X0.here hx rfl (hb hby own_d_method_2_code_45) ?_
          show Steps p.tables e below (s₁.setTop (mkF m 47 #[.val (.int p1)] [(.int (64 : Int32)), (.int p1), (.long (541165879296 : Int64))])) _
          refine XS.isub X0.here hx rfl (hb hby own_d_method_2_code_47) rfl ?_
          show Steps p.tables e below (s₁.setTop (mkF m 48 #[.val (.int p1)] [(.int (p1 - (64 : Int32))), (.long (541165879296 : Int64))])) _
          refine XS.lushr X0.here hx rfl (hb hby own_d_method_2_code_48) rfl ?_
          show Steps p.tables e below (s₁.setTop (mkF m 49 #[.val (.int p1)] [(.long (((541165879296 : Int64).toUInt64 >>> ((p1 - (64 : Int32)) &&& 0x3f).toInt64.toUInt64).toInt64))])) _
          refine XS.lconst X0.here hx rfl (hb hby own_d_method_2_code_49) ?_
          show Steps p.tables e below (s₁.setTop (mkF m 50 #[.val (.int p1)] [(.long (1 : Int64)), (.long (((541165879296 : Int64).toUInt64 >>> ((p1 - (64 : Int32)) &&& 0x3f).toInt64.toUInt64).toInt64))])) _
          refine XS.land X0.here hx rfl (hb hby own_d_method_2_code_50) rfl ?_
          show Steps p.tables e below (s₁.setTop (mkF m 51 #[.val (.int p1)] [(.long ((((541165879296 : Int64).toUInt64 >>> ((p1 - (64 : Int32)) &&& 0x3f).toInt64.toUInt64).toInt64) &&& (1 : Int64)))])) _
          refine XS.lconst X0.here hx rfl (hb hby own_d_method_2_code_51) ?_
          show Steps p.tables e below (s₁.setTop (mkF m 52 #[.val (.int p1)] [(.long (0 : Int64)), (.long ((((541165879296 : Int64).toUInt64 >>> ((p1 - (64 : Int32)) &&& 0x3f).toInt64.toUInt64).toInt64) &&& (1 : Int64)))])) _
          refine XS.lcmp X0.here hx rfl (hb hby own_d_method_2_code_52) rfl ?_
          exact kk_)
        by_cases hz : (lcmpW ((((541165879296 : Int64).toUInt64 >>> ((p1 - (64 : Int32)) &&& 0x3f).toInt64.toUInt64).toInt64) &&& (1 : Int64)) (0 : Int64)) = (0 : Int32)
        · have pre6 : ∀ tt_, Steps p.tables e below (s₁.setTop (mkF m 61 #[.val (.int p1)] [(.int (0 : Int32))])) tt_ → Steps p.tables e below (s₁.setTop (entryFrame m #[(.int p1)] 1)) tt_ := fun tt_ kk_ => pre5 tt_ (by
            show Steps p.tables e below (s₁.setTop (mkF m 53 #[.val (.int p1)] [(.int (lcmpW ((((541165879296 : Int64).toUInt64 >>> ((p1 - (64 : Int32)) &&& 0x3f).toInt64.toUInt64).toInt64) &&& (1 : Int64)) (0 : Int64)))])) _
            refine XS.ifYes X0.here hx rfl (pc0 := 53) (pc' := 60) rfl (hb hby own_d_method_2_code_53) rfl ((if0 _ _).trans (teq (hz : (lcmpW ((((541165879296 : Int64).toUInt64 >>> ((p1 - (64 : Int32)) &&& 0x3f).toInt64.toUInt64).toInt64) &&& (1 : Int64)) (0 : Int64)) = (0 : Int32))).1) (by decide) (by decide) ?_
            show Steps p.tables e below (s₁.setTop (mkF m 60 #[.val (.int p1)] [])) _
            refine XS.iconst X0.here hx rfl (hb hby own_d_method_2_code_60) ?_
            exact kk_)
          obtain ⟨fs, hr, hrun, hended, hW, hsame⟩ := X0.leave (v := some (.int (nar .boolean (0 : Int32)))) (fun h => by rw [Bd.returns] at h; cases h)
          refine ⟨_, _, pre6 _ ?_, hrun, hended, _, _, rfl, ?_, ⟨_, rfl⟩, hW, hsame.mono (by decide) (by decide)⟩
          · show Steps p.tables e below (s₁.setTop (mkF m 61 #[.val (.int p1)] [(.int (0 : Int32))])) _
            exact retN X0 hx (t := .boolean) Bd.returns (by simp) (hb hby own_d_method_2_code_61) hr
          · show QP (.int (own_tab p1)) h0 n0 _ s₁.heap _
            rw [e0]
            exact ⟨by rw [own_tab, if_pos hneg]; rw [own_t2, if_neg g64, if_pos g128, if_pos hz]; rfl, N0, rfl⟩
        · have pre7 : ∀ tt_, Steps p.tables e below (s₁.setTop (mkF m 61 #[.val (.int p1)] [(.int (1 : Int32))])) tt_ → Steps p.tables e below (s₁.setTop (entryFrame m #[(.int p1)] 1)) tt_ := fun tt_ kk_ => pre5 tt_ (by
            show Steps p.tables e below (s₁.setTop (mkF m 53 #[.val (.int p1)] [(.int (lcmpW ((((541165879296 : Int64).toUInt64 >>> ((p1 - (64 : Int32)) &&& 0x3f).toInt64.toUInt64).toInt64) &&& (1 : Int64)) (0 : Int64)))])) _
            refine XS.ifNo X0.here hx rfl (hb hby own_d_method_2_code_53) rfl ((if0 _ _).trans (feq (hz : ¬ ((lcmpW ((((541165879296 : Int64).toUInt64 >>> ((p1 - (64 : Int32)) &&& 0x3f).toInt64.toUInt64).toInt64) &&& (1 : Int64)) (0 : Int64)) = (0 : Int32)))).1) ?_
            show Steps p.tables e below (s₁.setTop (mkF m 56 #[.val (.int p1)] [])) _
            refine XS.iconst X0.here hx rfl (hb hby own_d_method_2_code_56) ?_
            show Steps p.tables e below (s₁.setTop (mkF m 57 #[.val (.int p1)] [(.int (1 : Int32))])) _
            refine XS.goto X0.here hx rfl (pc0 := 57) (pc' := 61) rfl (hb hby own_d_method_2_code_57) (by decide) (by decide) ?_
            exact kk_)
          obtain ⟨fs, hr, hrun, hended, hW, hsame⟩ := X0.leave (v := some (.int (nar .boolean (1 : Int32)))) (fun h => by rw [Bd.returns] at h; cases h)
          refine ⟨_, _, pre7 _ ?_, hrun, hended, _, _, rfl, ?_, ⟨_, rfl⟩, hW, hsame.mono (by decide) (by decide)⟩
          · show Steps p.tables e below (s₁.setTop (mkF m 61 #[.val (.int p1)] [(.int (1 : Int32))])) _
            exact retN X0 hx (t := .boolean) Bd.returns (by simp) (hb hby own_d_method_2_code_61) hr
          · show QP (.int (own_tab p1)) h0 n0 _ s₁.heap _
            rw [e0]
            exact ⟨by rw [own_tab, if_pos hneg]; rw [own_t2, if_neg g64, if_pos g128, if_neg hz]; rfl, N0, rfl⟩
      · have pre8 : ∀ tt_, Steps p.tables e below (s₁.setTop (mkF m 63 #[.val (.int p1)] [(.int (0 : Int32))])) tt_ → Steps p.tables e below (s₁.setTop (entryFrame m #[(.int p1)] 1)) tt_ := fun tt_ kk_ => pre4 tt_ (by
          show Steps p.tables e below (s₁.setTop (mkF m 38 #[.val (.int p1)] [(.int (128 : Int32)), (.int p1)])) _
          refine XS.icmpYes X0.here hx rfl (pc0 := 38) (pc' := 62) rfl (hb hby own_d_method_2_code_38) rfl (flt (g128 : ¬ (p1 < (128 : Int32)))).2.1 (by decide) (by decide) ?_
          show Steps p.tables e below (s₁.setTop (mkF m 62 #[.val (.int p1)] [])) _
          refine XS.iconst X0.here hx rfl (hb hby own_d_method_2_code_62) ?_
          exact kk_)
        obtain ⟨fs, hr, hrun, hended, hW, hsame⟩ := X0.leave (v := some (.int (nar .boolean (0 : Int32)))) (fun h => by rw [Bd.returns] at h; cases h)
        refine ⟨_, _, pre8 _ ?_, hrun, hended, _, _, rfl, ?_, ⟨_, rfl⟩, hW, hsame.mono (by decide) (by decide)⟩
        · show Steps p.tables e below (s₁.setTop (mkF m 63 #[.val (.int p1)] [(.int (0 : Int32))])) _
          exact retN X0 hx (t := .boolean) Bd.returns (by simp) (hb hby own_d_method_2_code_63) hr
        · show QP (.int (own_tab p1)) h0 n0 _ s₁.heap _
          rw [e0]
          exact ⟨by rw [own_tab, if_pos hneg]; rw [own_t2, if_neg g64, if_neg g128]; rfl, N0, rfl⟩
  · have pre9 : ∀ tt_, Steps p.tables e below (s₁.setTop (mkF m 7 #[.val (.int p1)] [(.int (64 : Int32)), (.int p1)])) tt_ → Steps p.tables e below (s₁.setTop (entryFrame m #[(.int p1)] 1)) tt_ := fun tt_ kk_ => pre1 tt_ (by
      show Steps p.tables e below (s₁.setTop (mkF m 1 #[.val (.int p1)] [(.int p1)])) _
      refine XS.ifNo X0.here hx rfl (hb hby own_d_method_2_code_1) rfl ((if0 _ _).trans (flt (hneg : ¬ (p1 < (0 : Int32)))).1) ?_
      show Steps p.tables e below (s₁.setTop (mkF m 4 #[.val (.int p1)] [])) _
      refine XS.iloadN X0.here hx rfl (hb hby own_d_method_2_code_4) rfl ?_
      show Steps p.tables e below (s₁.setTop (mkF m 5 #[.val (.int p1)] [(.int p1)])) _
      refine XS.bipush X0.here hx rfl (hb hby own_d_method_2_code_5) ?_
      exact kk_)
    by_cases h64 : p1 < (64 : Int32)
    · have pre10 : ∀ tt_, Steps p.tables e below (s₁.setTop (mkF m 19 #[.val (.int p1)] [(.int (lcmpW ((((287948901175001088 : Int64).toUInt64 >>> (p1 &&& 0x3f).toInt64.toUInt64).toInt64) &&& (1 : Int64)) (0 : Int64)))])) tt_ → Steps p.tables e below (s₁.setTop (entryFrame m #[(.int p1)] 1)) tt_ := fun tt_ kk_ => pre9 tt_ (by
        show Steps p.tables e below (s₁.setTop (mkF m 7 #[.val (.int p1)] [(.int (64 : Int32)), (.int p1)])) _
        refine XS.icmpNo X0.here hx rfl (hb hby own_d_method_2_code_7) rfl (tlt (h64 : p1 < (64 : Int32))).2.1 ?_
        show Steps p.tables e below (s₁.setTop (mkF m 10 #[.val (.int p1)] [])) _
        refine X0.ldc2Long hx hown (mvT hZ (hw _ (List.mem_of_getElem? (i := 8) rfl))) (g := (mkF m 10 #[.val (.int p1)] [])) rfl (hb hby own_d_method_2_code_10) _ ?_
        show Steps p.tables e below (s₁.setTop (mkF m 13 #[.val (.int p1)] [(.long (287948901175001088 : Int64))])) _
        refine XS.iloadN X0.here hx rfl (hb hby own_d_method_2_code_13) rfl ?_
        show Steps p.tables e below (s₁.setTop (mkF m 14 #[.val (.int p1)] [(.int p1), (.long (287948901175001088 : Int64))])) _
        refine XS.lushr X0.here hx rfl (hb hby own_d_method_2_code_14) rfl ?_
        show Steps p.tables e below (s₁.setTop (mkF m 15 #[.val (.int p1)] [(.long (((287948901175001088 : Int64).toUInt64 >>> (p1 &&& 0x3f).toInt64.toUInt64).toInt64))])) _
        refine XS.lconst X0.here hx rfl (hb hby own_d_method_2_code_15) ?_
        show Steps p.tables e below (s₁.setTop (mkF m 16 #[.val (.int p1)] [(.long (1 : Int64)), (.long (((287948901175001088 : Int64).toUInt64 >>> (p1 &&& 0x3f).toInt64.toUInt64).toInt64))])) _
        refine XS.land X0.here hx rfl (hb hby own_d_method_2_code_16) rfl ?_
        show Steps p.tables e below (s₁.setTop (mkF m 17 #[.val (.int p1)] [(.long ((((287948901175001088 : Int64).toUInt64 >>> (p1 &&& 0x3f).toInt64.toUInt64).toInt64) &&& (1 : Int64)))])) _
        refine XS.lconst X0.here hx rfl (hb hby own_d_method_2_code_17) ?_
        show Steps p.tables e below (s₁.setTop (mkF m 18 #[.val (.int p1)] [(.long (0 : Int64)), (.long ((((287948901175001088 : Int64).toUInt64 >>> (p1 &&& 0x3f).toInt64.toUInt64).toInt64) &&& (1 : Int64)))])) _
        refine XS.lcmp X0.here hx rfl (hb hby own_d_method_2_code_18) rfl ?_
        exact kk_)
      by_cases hz : (lcmpW ((((287948901175001088 : Int64).toUInt64 >>> (p1 &&& 0x3f).toInt64.toUInt64).toInt64) &&& (1 : Int64)) (0 : Int64)) = (0 : Int32)
      · have pre11 : ∀ tt_, Steps p.tables e below (s₁.setTop (mkF m 27 #[.val (.int p1)] [(.int (0 : Int32))])) tt_ → Steps p.tables e below (s₁.setTop (entryFrame m #[(.int p1)] 1)) tt_ := fun tt_ kk_ => pre10 tt_ (by
          show Steps p.tables e below (s₁.setTop (mkF m 19 #[.val (.int p1)] [(.int (lcmpW ((((287948901175001088 : Int64).toUInt64 >>> (p1 &&& 0x3f).toInt64.toUInt64).toInt64) &&& (1 : Int64)) (0 : Int64)))])) _
          refine XS.ifYes X0.here hx rfl (pc0 := 19) (pc' := 26) rfl (hb hby own_d_method_2_code_19) rfl ((if0 _ _).trans (teq (hz : (lcmpW ((((287948901175001088 : Int64).toUInt64 >>> (p1 &&& 0x3f).toInt64.toUInt64).toInt64) &&& (1 : Int64)) (0 : Int64)) = (0 : Int32))).1) (by decide) (by decide) ?_
          show Steps p.tables e below (s₁.setTop (mkF m 26 #[.val (.int p1)] [])) _
          refine XS.iconst X0.here hx rfl (hb hby own_d_method_2_code_26) ?_
          exact kk_)
        obtain ⟨fs, hr, hrun, hended, hW, hsame⟩ := X0.leave (v := some (.int (nar .boolean (0 : Int32)))) (fun h => by rw [Bd.returns] at h; cases h)
        refine ⟨_, _, pre11 _ ?_, hrun, hended, _, _, rfl, ?_, ⟨_, rfl⟩, hW, hsame.mono (by decide) (by decide)⟩
        · show Steps p.tables e below (s₁.setTop (mkF m 27 #[.val (.int p1)] [(.int (0 : Int32))])) _
          exact retN X0 hx (t := .boolean) Bd.returns (by simp) (hb hby own_d_method_2_code_27) hr
        · show QP (.int (own_tab p1)) h0 n0 _ s₁.heap _
          rw [e0]
          exact ⟨by rw [own_tab, if_neg hneg, if_pos h64, if_pos hz]; rfl, N0, rfl⟩
      · have pre12 : ∀ tt_, Steps p.tables e below (s₁.setTop (mkF m 27 #[.val (.int p1)] [(.int (1 : Int32))])) tt_ → Steps p.tables e below (s₁.setTop (entryFrame m #[(.int p1)] 1)) tt_ := fun tt_ kk_ => pre10 tt_ (by
          show Steps p.tables e below (s₁.setTop (mkF m 19 #[.val (.int p1)] [(.int (lcmpW ((((287948901175001088 : Int64).toUInt64 >>> (p1 &&& 0x3f).toInt64.toUInt64).toInt64) &&& (1 : Int64)) (0 : Int64)))])) _
          refine XS.ifNo X0.here hx rfl (hb hby own_d_method_2_code_19) rfl ((if0 _ _).trans (feq (hz : ¬ ((lcmpW ((((287948901175001088 : Int64).toUInt64 >>> (p1 &&& 0x3f).toInt64.toUInt64).toInt64) &&& (1 : Int64)) (0 : Int64)) = (0 : Int32)))).1) ?_
          show Steps p.tables e below (s₁.setTop (mkF m 22 #[.val (.int p1)] [])) _
          refine XS.iconst X0.here hx rfl (hb hby own_d_method_2_code_22) ?_
          show Steps p.tables e below (s₁.setTop (mkF m 23 #[.val (.int p1)] [(.int (1 : Int32))])) _
          refine XS.goto X0.here hx rfl (pc0 := 23) (pc' := 27) rfl (hb hby own_d_method_2_code_23) (by decide) (by decide) ?_
          exact kk_)
        obtain ⟨fs, hr, hrun, hended, hW, hsame⟩ := X0.leave (v := some (.int (nar .boolean (1 : Int32)))) (fun h => by rw [Bd.returns] at h; cases h)
        refine ⟨_, _, pre12 _ ?_, hrun, hended, _, _, rfl, ?_, ⟨_, rfl⟩, hW, hsame.mono (by decide) (by decide)⟩
        · show Steps p.tables e below (s₁.setTop (mkF m 27 #[.val (.int p1)] [(.int (1 : Int32))])) _
          exact retN X0 hx (t := .boolean) Bd.returns (by simp) (hb hby own_d_method_2_code_27) hr
        · show QP (.int (own_tab p1)) h0 n0 _ s₁.heap _
          rw [e0]
          exact ⟨by rw [own_tab, if_neg hneg, if_pos h64, if_neg hz]; rfl, N0, rfl⟩
    · have pre13 : ∀ tt_, Steps p.tables e below (s₁.setTop (mkF m 31 #[.val (.int p1)] [(.int (64 : Int32)), (.int p1)])) tt_ → Steps p.tables e below (s₁.setTop (entryFrame m #[(.int p1)] 1)) tt_ := fun tt_ kk_ => pre9 tt_ (by
        show Steps p.tables e below (s₁.setTop (mkF m 7 #[.val (.int p1)] [(.int (64 : Int32)), (.int p1)])) _
        refine XS.icmpYes X0.here hx rfl (pc0 := 7) (pc' := 28) rfl (hb hby own_d_method_2_code_7) rfl (flt (h64 : ¬ (p1 < (64 : Int32)))).2.1 (by decide) (by decide) ?_
        show Steps p.tables e below (s₁.setTop (mkF m 28 #[.val (.int p1)] [])) _
        refine XS.iloadN X0.here hx rfl (hb hby own_d_method_2_code_28) rfl ?_
        show Steps p.tables e below (s₁.setTop (mkF m 29 #[.val (.int p1)] [(.int p1)])) _
        refine XS.bipush X0.here hx rfl (hb hby own_d_method_2_code_29) ?_
        exact kk_)
      by_cases g64 : p1 < (64 : Int32)
      · have pre14 : ∀ tt_, Steps p.tables e below (s₁.setTop (mkF m 63 #[.val (.int p1)] [(.int (0 : Int32))])) tt_ → Steps p.tables e below (s₁.setTop (entryFrame m #[(.int p1)] 1)) tt_ := fun tt_ kk_ => pre13 tt_ (by
          show Steps p.tables e below (s₁.setTop (mkF m 31 #[.val (.int p1)] [(.int (64 : Int32)), (.int p1)])) _
          refine XS.icmpYes X0.here hx rfl (pc0 := 31) (pc' := 62) rfl (hb hby own_d_method_2_code_31) rfl (tlt (g64 : p1 < (64 : Int32))).1 (by decide) (by decide) ?_
          show Steps p.tables e below (s₁.setTop (mkF m 62 #[.val (.int p1)] [])) _
          refine XS.iconst X0.here hx rfl (hb hby own_d_method_2_code_62) ?_
          exact kk_)
        obtain ⟨fs, hr, hrun, hended, hW, hsame⟩ := X0.leave (v := some (.int (nar .boolean (0 : Int32)))) (fun h => by rw [Bd.returns] at h; cases h)
        refine ⟨_, _, pre14 _ ?_, hrun, hended, _, _, rfl, ?_, ⟨_, rfl⟩, hW, hsame.mono (by decide) (by decide)⟩
        · show Steps p.tables e below (s₁.setTop (mkF m 63 #[.val (.int p1)] [(.int (0 : Int32))])) _
          exact retN X0 hx (t := .boolean) Bd.returns (by simp) (hb hby own_d_method_2_code_63) hr
        · show QP (.int (own_tab p1)) h0 n0 _ s₁.heap _
          rw [e0]
          exact ⟨by rw [own_tab, if_neg hneg, if_neg h64]; rw [own_t2, if_pos g64]; rfl, N0, rfl⟩
      · have pre15 : ∀ tt_, Steps p.tables e below (s₁.setTop (mkF m 38 #[.val (.int p1)] [(.int (128 : Int32)), (.int p1)])) tt_ → Steps p.tables e below (s₁.setTop (entryFrame m #[(.int p1)] 1)) tt_ := fun tt_ kk_ => pre13 tt_ (by
          show Steps p.tables e below (s₁.setTop (mkF m 31 #[.val (.int p1)] [(.int (64 : Int32)), (.int p1)])) _
          refine XS.icmpNo X0.here hx rfl (hb hby own_d_method_2_code_31) rfl (flt (g64 : ¬ (p1 < (64 : Int32)))).1 ?_
          show Steps p.tables e below (s₁.setTop (mkF m 34 #[.val (.int p1)] [])) _
          refine XS.iloadN X0.here hx rfl (hb hby own_d_method_2_code_34) rfl ?_
          show Steps p.tables e below (s₁.setTop (mkF m 35 #[.val (.int p1)] [(.int p1)])) _
          refine XS.sipush X0.here hx rfl (hb hby own_d_method_2_code_35) ?_
          exact kk_)
        by_cases g128 : p1 < (128 : Int32)
        · have pre16 : ∀ tt_, Steps p.tables e below (s₁.setTop (mkF m 53 #[.val (.int p1)] [(.int (lcmpW ((((541165879296 : Int64).toUInt64 >>> ((p1 - (64 : Int32)) &&& 0x3f).toInt64.toUInt64).toInt64) &&& (1 : Int64)) (0 : Int64)))])) tt_ → Steps p.tables e below (s₁.setTop (entryFrame m #[(.int p1)] 1)) tt_ := fun tt_ kk_ => pre15 tt_ (by
            show Steps p.tables e below (s₁.setTop (mkF m 38 #[.val (.int p1)] [(.int (128 : Int32)), (.int p1)])) _
            refine XS.icmpNo X0.here hx rfl (hb hby own_d_method_2_code_38) rfl (tlt (g128 : p1 < (128 : Int32))).2.1 ?_
            show Steps p.tables e below (s₁.setTop (mkF m 41 #[.val (.int p1)] [])) _
            refine X0.ldc2Long hx hown (mvT hZ (hw _ (List.mem_of_getElem? (i := 43) rfl))) (g := (mkF m 41 #[.val (.int p1)] [])) rfl (hb hby own_d_method_2_code_41) _ ?_
            show Steps p.tables e below (s₁.setTop (mkF m 44 #[.val (.int p1)] [(.long (541165879296 : Int64))])) _
            refine XS.iloadN X0.here hx rfl (hb hby own_d_method_2_code_44) rfl ?_
            show Steps p.tables e below (s₁.setTop (mkF m 45 #[.val (.int p1)] [(.int p1), (.long (541165879296 : Int64))])) _
            refine XS.bipush X0.here hx rfl (hb hby own_d_method_2_code_45) ?_
            show Steps p.tables e below (s₁.setTop (mkF m 47 #[.val (.int p1)] [(.int (64 : Int32)), (.int p1), (.long (541165879296 : Int64))])) _
            refine XS.isub X0.here hx rfl (hb hby own_d_method_2_code_47) rfl ?_
            show Steps p.tables e below (s₁.setTop (mkF m 48 #[.val (.int p1)] [(.int (p1 - (64 : Int32))), (.long (541165879296 : Int64))])) _
            refine XS.lushr X0.here hx rfl (hb hby own_d_method_2_code_48) rfl ?_
            show Steps p.tables e below (s₁.setTop (mkF m 49 #[.val (.int p1)] [(.long (((541165879296 : Int64).toUInt64 >>> ((p1 - (64 : Int32)) &&& 0x3f).toInt64.toUInt64).toInt64))])) _
            refine XS.lconst X0.here hx rfl (hb hby own_d_method_2_code_49) ?_
            show Steps p.tables e below (s₁.setTop (mkF m 50 #[.val (.int p1)] [(.long (1 : Int64)), (.long (((541165879296 : Int64).toUInt64 >>> ((p1 - (64 : Int32)) &&& 0x3f).toInt64.toUInt64).toInt64))])) _
            refine XS.land X0.here hx rfl (hb hby own_d_method_2_code_50) rfl ?_
            show Steps p.tables e below (s₁.setTop (mkF m 51 #[.val (.int p1)] [(.long ((((541165879296 : Int64).toUInt64 >>> ((p1 - (64 : Int32)) &&& 0x3f).toInt64.toUInt64).toInt64) &&& (1 : Int64)))])) _
            refine XS.lconst X0.here hx rfl (hb hby own_d_method_2_code_51) ?_
            show Steps p.tables e below (s₁.setTop (mkF m 52 #[.val (.int p1)] [(.long (0 : Int64)), (.long ((((541165879296 : Int64).toUInt64 >>> ((p1 - (64 : Int32)) &&& 0x3f).toInt64.toUInt64).toInt64) &&& (1 : Int64)))])) _
            refine XS.lcmp X0.here hx rfl (hb hby own_d_method_2_code_52) rfl ?_
            exact kk_)
          by_cases hz : (lcmpW ((((541165879296 : Int64).toUInt64 >>> ((p1 - (64 : Int32)) &&& 0x3f).toInt64.toUInt64).toInt64) &&& (1 : Int64)) (0 : Int64)) = (0 : Int32)
          · have pre17 : ∀ tt_, Steps p.tables e below (s₁.setTop (mkF m 61 #[.val (.int p1)] [(.int (0 : Int32))])) tt_ → Steps p.tables e below (s₁.setTop (entryFrame m #[(.int p1)] 1)) tt_ := fun tt_ kk_ => pre16 tt_ (by
              show Steps p.tables e below (s₁.setTop (mkF m 53 #[.val (.int p1)] [(.int (lcmpW ((((541165879296 : Int64).toUInt64 >>> ((p1 - (64 : Int32)) &&& 0x3f).toInt64.toUInt64).toInt64) &&& (1 : Int64)) (0 : Int64)))])) _
              refine XS.ifYes X0.here hx rfl (pc0 := 53) (pc' := 60) rfl (hb hby own_d_method_2_code_53) rfl ((if0 _ _).trans (teq (hz : (lcmpW ((((541165879296 : Int64).toUInt64 >>> ((p1 - (64 : Int32)) &&& 0x3f).toInt64.toUInt64).toInt64) &&& (1 : Int64)) (0 : Int64)) = (0 : Int32))).1) (by decide) (by decide) ?_
              show Steps p.tables e below (s₁.setTop (mkF m 60 #[.val (.int p1)] [])) _
              refine XS.iconst X0.here hx rfl (hb hby own_d_method_2_code_60) ?_
              exact kk_)
            obtain ⟨fs, hr, hrun, hended, hW, hsame⟩ := X0.leave (v := some (.int (nar .boolean (0 : Int32)))) (fun h => by rw [Bd.returns] at h; cases h)
            refine ⟨_, _, pre17 _ ?_, hrun, hended, _, _, rfl, ?_, ⟨_, rfl⟩, hW, hsame.mono (by decide) (by decide)⟩
            · show Steps p.tables e below (s₁.setTop (mkF m 61 #[.val (.int p1)] [(.int (0 : Int32))])) _
              exact retN X0 hx (t := .boolean) Bd.returns (by simp) (hb hby own_d_method_2_code_61) hr
            · show QP (.int (own_tab p1)) h0 n0 _ s₁.heap _
              rw [e0]
              exact ⟨by rw [own_tab, if_neg hneg, if_neg h64]; rw [own_t2, if_neg g64, if_pos g128, if_pos hz]; rfl, N0, rfl⟩
          · have pre18 : ∀ tt_, Steps p.tables e below (s₁.setTop (mkF m 61 #[.val (.int p1)] [(.int (1 : Int32))])) tt_ → Steps p.tables e below (s₁.setTop (entryFrame m #[(.int p1)] 1)) tt_ := fun tt_ kk_ => pre16 tt_ (by
              show Steps p.tables e below (s₁.setTop (mkF m 53 #[.val (.int p1)] [(.int (lcmpW ((((541165879296 : Int64).toUInt64 >>> ((p1 - (64 : Int32)) &&& 0x3f).toInt64.toUInt64).toInt64) &&& (1 : Int64)) (0 : Int64)))])) _
              refine XS.ifNo X0.here hx rfl (hb hby own_d_method_2_code_53) rfl ((if0 _ _).trans (feq (hz : ¬ ((lcmpW ((((541165879296 : Int64).toUInt64 >>> ((p1 - (64 : Int32)) &&& 0x3f).toInt64.toUInt64).toInt64) &&& (1 : Int64)) (0 : Int64)) = (0 : Int32)))).1) ?_
              show Steps p.tables e below (s₁.setTop (mkF m 56 #[.val (.int p1)] [])) _
              refine XS.iconst X0.here hx rfl (hb hby own_d_method_2_code_56) ?_
              show Steps p.tables e below (s₁.setTop (mkF m 57 #[.val (.int p1)] [(.int (1 : Int32))])) _
              refine XS.goto X0.here hx rfl (pc0 := 57) (pc' := 61) rfl (hb hby own_d_method_2_code_57) (by decide) (by decide) ?_
              exact kk_)
            obtain ⟨fs, hr, hrun, hended, hW, hsame⟩ := X0.leave (v := some (.int (nar .boolean (1 : Int32)))) (fun h => by rw [Bd.returns] at h; cases h)
            refine ⟨_, _, pre18 _ ?_, hrun, hended, _, _, rfl, ?_, ⟨_, rfl⟩, hW, hsame.mono (by decide) (by decide)⟩
            · show Steps p.tables e below (s₁.setTop (mkF m 61 #[.val (.int p1)] [(.int (1 : Int32))])) _
              exact retN X0 hx (t := .boolean) Bd.returns (by simp) (hb hby own_d_method_2_code_61) hr
            · show QP (.int (own_tab p1)) h0 n0 _ s₁.heap _
              rw [e0]
              exact ⟨by rw [own_tab, if_neg hneg, if_neg h64]; rw [own_t2, if_neg g64, if_pos g128, if_neg hz]; rfl, N0, rfl⟩
        · have pre19 : ∀ tt_, Steps p.tables e below (s₁.setTop (mkF m 63 #[.val (.int p1)] [(.int (0 : Int32))])) tt_ → Steps p.tables e below (s₁.setTop (entryFrame m #[(.int p1)] 1)) tt_ := fun tt_ kk_ => pre15 tt_ (by
            show Steps p.tables e below (s₁.setTop (mkF m 38 #[.val (.int p1)] [(.int (128 : Int32)), (.int p1)])) _
            refine XS.icmpYes X0.here hx rfl (pc0 := 38) (pc' := 62) rfl (hb hby own_d_method_2_code_38) rfl (flt (g128 : ¬ (p1 < (128 : Int32)))).2.1 (by decide) (by decide) ?_
            show Steps p.tables e below (s₁.setTop (mkF m 62 #[.val (.int p1)] [])) _
            refine XS.iconst X0.here hx rfl (hb hby own_d_method_2_code_62) ?_
            exact kk_)
          obtain ⟨fs, hr, hrun, hended, hW, hsame⟩ := X0.leave (v := some (.int (nar .boolean (0 : Int32)))) (fun h => by rw [Bd.returns] at h; cases h)
          refine ⟨_, _, pre19 _ ?_, hrun, hended, _, _, rfl, ?_, ⟨_, rfl⟩, hW, hsame.mono (by decide) (by decide)⟩
          · show Steps p.tables e below (s₁.setTop (mkF m 63 #[.val (.int p1)] [(.int (0 : Int32))])) _
            exact retN X0 hx (t := .boolean) Bd.returns (by simp) (hb hby own_d_method_2_code_63) hr
          · show QP (.int (own_tab p1)) h0 n0 _ s₁.heap _
            rw [e0]
            exact ⟨by rw [own_tab, if_neg hneg, if_neg h64]; rw [own_t2, if_neg g64, if_neg g128]; rfl, N0, rfl⟩
theorem own_ef_rmPn (m : MethodId) (y0 : Int32) (y1 : Int32) : entryFrame m #[(.int y0), (.int y1), .null] 3 = mkF m 0 #[.val (.int y0), .val (.int y1), .val .null] [] := by first | (simp [entryFrame, mkF, argsToLocals, Value.category]; done) | rfl
set_option maxRecDepth 65536 in
set_option maxHeartbeats 40000000 in
theorem rmPn (l : Launch) (Z : State) (a0 : Array Value) (hw : ∀ d ∈ tables_1, d.before a0 Z = true) (ws : List Jvm.Cond) (i n : Int32)  (h0 : Heap) (n0 : Nat) (Z0 : n0 ≤ h0.size) (hi : ¬ i < 0 ∧ i < n) :
    MetFree l (⟨"jdk/internal/util/Preconditions", "checkIndex", "(IILjava/util/function/BiFunction;)I"⟩ : MethodName) (head1 (Jvm.Cond.code (⟨"jdk/internal/util/Preconditions", "checkIndex", "(IILjava/util/function/BiFunction;)I"⟩ : MethodName) jdk_41_method_11_code 3 (some .int) :: ws) ({ frames := 0, cells := 0, slots := 0, locals := 0 } : Room)) (fun ar_ U => ar_ = #[(.int i), (.int n), .null] ∧ Z.Warmed39 U.vm ∧ U.heap = h0) (fun _ _ _ _ _ => True) (fun _ U o U' => ∃ v L, o = .returned v ∧ QP (.int i) h0 n0 v U'.heap L ∧ FrameEnd U o U' L ({ frames := 0, cells := 0, slots := 0, locals := 0 } : Room).cells ({ frames := 0, cells := 0, slots := 0, locals := 0 } : Room).slots) := by
  refine MetFree.of_bodySF (plainFor_of_name own_pn2) hisR ?_
  intro p e s m args below meth c s₁ Bd hml0 hP hK
  obtain ⟨rfl, hZ, hh⟩ := hP
  have hx := Bd.exec
  have hby := Bd.bytes
  have hml : c.maxLocals = 3 := hml0
  have hown : s.vm.findClass "jdk/internal/util/Preconditions" = some m.cls := findClass_of_methodNamed Bd.named
  have hnm := (name_of_methodNamed Bd.named Bd.method).1
  have X0 : Stand p l e ({ frames := 0, cells := 0, slots := 0, locals := 0 } : Room) s m #[(.int i), (.int n), .null] below meth c s₁ [] 0 0 := Stand.of_body Bd
  have e0 : s₁.heap = h0 := by rw [← hh, Bd.state]; rfl
  have N0 := Fr.nil n0
  have pre0 : ∀ tt_, Steps p.tables e below (s₁.setTop (mkF m 0 #[.val (.int i), .val (.int n), .val .null] [])) tt_ → Steps p.tables e below (s₁.setTop (entryFrame m #[(.int i), (.int n), .null] 3)) tt_ := fun tt_ kk_ => castTop (own_ef_rmPn m i n) kk_
  have pre1 : ∀ tt_, Steps p.tables e below (s₁.setTop (mkF m 17 #[.val (.int i), .val (.int n), .val .null] [(.int i)])) tt_ → Steps p.tables e below (s₁.setTop (entryFrame m #[(.int i), (.int n), .null] 3)) tt_ := fun tt_ kk_ => pre0 tt_ (by
    show Steps p.tables e below (s₁.setTop (mkF m 0 #[.val (.int i), .val (.int n), .val .null] [])) _
    refine XS.iloadN X0.here hx rfl (hb hby own_d_jdk_41_method_11_code_0) rfl ?_
    show Steps p.tables e below (s₁.setTop (mkF m 1 #[.val (.int i), .val (.int n), .val .null] [(.int i)])) _
    refine XS.ifNo X0.here hx rfl (hb hby own_d_jdk_41_method_11_code_1) rfl ((if0 _ _).trans (flt (hi.1 : ¬ (i < (0 : Int32)))).1) ?_
    show Steps p.tables e below (s₁.setTop (mkF m 4 #[.val (.int i), .val (.int n), .val .null] [])) _
    refine XS.iloadN X0.here hx rfl (hb hby own_d_jdk_41_method_11_code_4) rfl ?_
    show Steps p.tables e below (s₁.setTop (mkF m 5 #[.val (.int i), .val (.int n), .val .null] [(.int i)])) _
    refine XS.iloadN X0.here hx rfl (hb hby own_d_jdk_41_method_11_code_5) rfl ?_
    show Steps p.tables e below (s₁.setTop (mkF m 6 #[.val (.int i), .val (.int n), .val .null] [(.int n), (.int i)])) _
    refine XS.icmpYes X0.here hx rfl (pc0 := 6) (pc' := 16) rfl (hb hby own_d_jdk_41_method_11_code_6) rfl (tlt (hi.2 : i < n)).1 (by decide) (by decide) ?_
    show Steps p.tables e below (s₁.setTop (mkF m 16 #[.val (.int i), .val (.int n), .val .null] [])) _
    refine XS.iloadN X0.here hx rfl (hb hby own_d_jdk_41_method_11_code_16) rfl ?_
    exact kk_)
  obtain ⟨fs, hr, hrun, hended, hW, hsame⟩ := X0.leave (v := some (.int i)) (fun h => by rw [Bd.returns] at h; cases h)
  refine ⟨_, _, pre1 _ ?_, hrun, hended, _, _, rfl, ?_, ⟨_, rfl⟩, hW, hsame.mono (by decide) (by decide)⟩
  · show Steps p.tables e below (s₁.setTop (mkF m 17 #[.val (.int i), .val (.int n), .val .null] [(.int i)])) _
    exact retI X0 hx Bd.returns (hb hby own_d_jdk_41_method_11_code_17) hr
  · show QP (.int i) h0 n0 _ s₁.heap _
    rw [e0]
    exact ⟨rfl, N0, rfl⟩
theorem own_ef_rmPr (m : MethodId) (y0 : Int32) (y1 : Int32) (y2 : Addr) : entryFrame m #[(.int y0), (.int y1), (.ref y2)] 3 = mkF m 0 #[.val (.int y0), .val (.int y1), .val (.ref y2)] [] := by first | (simp [entryFrame, mkF, argsToLocals, Value.category]; done) | rfl
set_option maxRecDepth 65536 in
set_option maxHeartbeats 40000000 in
theorem rmPr (l : Launch) (Z : State) (a0 : Array Value) (hw : ∀ d ∈ tables_1, d.before a0 Z = true) (ws : List Jvm.Cond) (i n : Int32) (fa : Addr) (h0 : Heap) (n0 : Nat) (Z0 : n0 ≤ h0.size) (hi : ¬ i < 0 ∧ i < n) :
    MetFree l (⟨"jdk/internal/util/Preconditions", "checkIndex", "(IILjava/util/function/BiFunction;)I"⟩ : MethodName) (head1 (Jvm.Cond.code (⟨"jdk/internal/util/Preconditions", "checkIndex", "(IILjava/util/function/BiFunction;)I"⟩ : MethodName) jdk_41_method_11_code 3 (some .int) :: ws) ({ frames := 0, cells := 0, slots := 0, locals := 0 } : Room)) (fun ar_ U => ar_ = #[(.int i), (.int n), (.ref fa)] ∧ Z.Warmed39 U.vm ∧ U.heap = h0) (fun _ _ _ _ _ => True) (fun _ U o U' => ∃ v L, o = .returned v ∧ QP (.int i) h0 n0 v U'.heap L ∧ FrameEnd U o U' L ({ frames := 0, cells := 0, slots := 0, locals := 0 } : Room).cells ({ frames := 0, cells := 0, slots := 0, locals := 0 } : Room).slots) := by
  refine MetFree.of_bodySF (plainFor_of_name own_pn2) hisR ?_
  intro p e s m args below meth c s₁ Bd hml0 hP hK
  obtain ⟨rfl, hZ, hh⟩ := hP
  have hx := Bd.exec
  have hby := Bd.bytes
  have hml : c.maxLocals = 3 := hml0
  have hown : s.vm.findClass "jdk/internal/util/Preconditions" = some m.cls := findClass_of_methodNamed Bd.named
  have hnm := (name_of_methodNamed Bd.named Bd.method).1
  have X0 : Stand p l e ({ frames := 0, cells := 0, slots := 0, locals := 0 } : Room) s m #[(.int i), (.int n), (.ref fa)] below meth c s₁ [] 0 0 := Stand.of_body Bd
  have e0 : s₁.heap = h0 := by rw [← hh, Bd.state]; rfl
  have N0 := Fr.nil n0
  have pre0 : ∀ tt_, Steps p.tables e below (s₁.setTop (mkF m 0 #[.val (.int i), .val (.int n), .val (.ref fa)] [])) tt_ → Steps p.tables e below (s₁.setTop (entryFrame m #[(.int i), (.int n), (.ref fa)] 3)) tt_ := fun tt_ kk_ => castTop (own_ef_rmPr m i n fa) kk_
  have pre1 : ∀ tt_, Steps p.tables e below (s₁.setTop (mkF m 17 #[.val (.int i), .val (.int n), .val (.ref fa)] [(.int i)])) tt_ → Steps p.tables e below (s₁.setTop (entryFrame m #[(.int i), (.int n), (.ref fa)] 3)) tt_ := fun tt_ kk_ => pre0 tt_ (by
    show Steps p.tables e below (s₁.setTop (mkF m 0 #[.val (.int i), .val (.int n), .val (.ref fa)] [])) _
    refine XS.iloadN X0.here hx rfl (hb hby own_d_jdk_41_method_11_code_0) rfl ?_
    show Steps p.tables e below (s₁.setTop (mkF m 1 #[.val (.int i), .val (.int n), .val (.ref fa)] [(.int i)])) _
    refine XS.ifNo X0.here hx rfl (hb hby own_d_jdk_41_method_11_code_1) rfl ((if0 _ _).trans (flt (hi.1 : ¬ (i < (0 : Int32)))).1) ?_
    show Steps p.tables e below (s₁.setTop (mkF m 4 #[.val (.int i), .val (.int n), .val (.ref fa)] [])) _
    refine XS.iloadN X0.here hx rfl (hb hby own_d_jdk_41_method_11_code_4) rfl ?_
    show Steps p.tables e below (s₁.setTop (mkF m 5 #[.val (.int i), .val (.int n), .val (.ref fa)] [(.int i)])) _
    refine XS.iloadN X0.here hx rfl (hb hby own_d_jdk_41_method_11_code_5) rfl ?_
    show Steps p.tables e below (s₁.setTop (mkF m 6 #[.val (.int i), .val (.int n), .val (.ref fa)] [(.int n), (.int i)])) _
    refine XS.icmpYes X0.here hx rfl (pc0 := 6) (pc' := 16) rfl (hb hby own_d_jdk_41_method_11_code_6) rfl (tlt (hi.2 : i < n)).1 (by decide) (by decide) ?_
    show Steps p.tables e below (s₁.setTop (mkF m 16 #[.val (.int i), .val (.int n), .val (.ref fa)] [])) _
    refine XS.iloadN X0.here hx rfl (hb hby own_d_jdk_41_method_11_code_16) rfl ?_
    exact kk_)
  obtain ⟨fs, hr, hrun, hended, hW, hsame⟩ := X0.leave (v := some (.int i)) (fun h => by rw [Bd.returns] at h; cases h)
  refine ⟨_, _, pre1 _ ?_, hrun, hended, _, _, rfl, ?_, ⟨_, rfl⟩, hW, hsame.mono (by decide) (by decide)⟩
  · show Steps p.tables e below (s₁.setTop (mkF m 17 #[.val (.int i), .val (.int n), .val (.ref fa)] [(.int i)])) _
    exact retI X0 hx Bd.returns (hb hby own_d_jdk_41_method_11_code_17) hr
  · show QP (.int i) h0 n0 _ s₁.heap _
    rw [e0]
    exact ⟨rfl, N0, rfl⟩
theorem own_ef_rmS (m : MethodId) (y0 : Int32) (y1 : Int32) : entryFrame m #[(.int y0), (.int y1)] 2 = mkF m 0 #[.val (.int y0), .val (.int y1)] [] := by first | (simp [entryFrame, mkF, argsToLocals, Value.category]; done) | rfl
set_option maxRecDepth 65536 in
set_option maxHeartbeats 40000000 in
theorem rmS (l : Launch) (Z : State) (a0 : Array Value) (hw : ∀ d ∈ tables_1, d.before a0 Z = true) (ws : List Jvm.Cond) (i n : Int32) (fm : Value) (h0 : Heap) (n0 : Nat) (Z0 : n0 ≤ h0.size) (S_FM : Sta Z h0 "jdk/internal/util/Preconditions" "SIOOBE_FORMATTER" "Ljava/util/function/BiFunction;" fm) (P_FM : fm.isRef = true) (hi : ¬ i < 0 ∧ i < n) :
    MetFree l (⟨"java/lang/String", "checkIndex", "(II)V"⟩ : MethodName) (head1 (Jvm.Cond.code (⟨"java/lang/String", "checkIndex", "(II)V"⟩ : MethodName) jdk_42_method_155_code 2 none :: ws) ({ frames := 1, cells := 0, slots := 0, locals := 14 } : Room)) (fun ar_ U => ar_ = #[(.int i), (.int n)] ∧ Z.Warmed39 U.vm ∧ U.heap = h0) (fun _ _ _ _ _ => True) (fun _ U o U' => ∃ v L, o = .returned v ∧ QN h0 n0 v U'.heap L ∧ FrameEnd U o U' L ({ frames := 1, cells := 0, slots := 0, locals := 14 } : Room).cells ({ frames := 1, cells := 0, slots := 0, locals := 14 } : Room).slots) := by
  refine MetFree.of_bodySF (plainFor_of_name own_pn3) hisR ?_
  intro p e s m args below meth c s₁ Bd hml0 hP hK
  obtain ⟨rfl, hZ, hh⟩ := hP
  have hx := Bd.exec
  have hby := Bd.bytes
  have hml : c.maxLocals = 2 := hml0
  have hown : s.vm.findClass "java/lang/String" = some m.cls := findClass_of_methodNamed Bd.named
  have hnm := (name_of_methodNamed Bd.named Bd.method).1
  have X0 : Stand p l e ({ frames := 1, cells := 0, slots := 0, locals := 14 } : Room) s m #[(.int i), (.int n)] below meth c s₁ [] 0 0 := Stand.of_body Bd
  have e0 : s₁.heap = h0 := by rw [← hh, Bd.state]; rfl
  have N0 := Fr.nil n0
  have pre0 : ∀ tt_, Steps p.tables e below (s₁.setTop (mkF m 0 #[.val (.int i), .val (.int n)] [])) tt_ → Steps p.tables e below (s₁.setTop (entryFrame m #[(.int i), (.int n)] 2)) tt_ := fun tt_ kk_ => castTop (own_ef_rmS m i n) kk_
  rcases ref_cases P_FM with rfl | ⟨fa, rfl⟩
  · obtain ⟨T1, X1, e1, st1⟩ := getS2 X0 hx hZ hown (host := "") (Or.inl (hw _ (List.mem_of_getElem? (i := 38) rfl))) Via.refl e0 S_FM (g := (mkF m 2 #[.val (.int i), .val (.int n)] [(.int n), (.int i)])) rfl (hb hby own_d_jdk_42_method_155_code_2)
    obtain ⟨_, _, ⟨T2, L2, k2, n2⟩, -, X2, ⟨Lc2, hQ2, l2, y2, z2⟩, st2⟩ := Jvm.LawKit.callS X1 hx (y := (⟨"jdk/internal/util/Preconditions", "checkIndex", "(IILjava/util/function/BiFunction;)I"⟩ : MethodName)) hown (mvT hZ (hw _ (List.mem_of_getElem? (i := 40) rfl))) (mvT hZ (hw _ (List.mem_of_getElem? (i := 41) rfl))) (mvT hZ (hw _ (List.mem_of_getElem? (i := 39) rfl))) (mvT hZ (hw _ (List.mem_of_getElem? (i := 42) rfl))) (by decide) (backOf (W := 0) (rmPn l Z a0 hw [] i n  h0 n0 Z0 hi) hZ (hw _ (List.mem_of_getElem? (i := 42) rfl)) (hw _ (List.mem_of_getElem? (i := 39) rfl)) (by decide) (by decide)) (g := (mkF m 5 #[.val (.int i), .val (.int n)] [.null, (.int n), (.int i)])) rfl (by rw [hml]; rfl) (argsL := [(.int i), (.int n), .null]) (rest := []) (lenOf own_pd0 rfl) rfl (by show 2 * 0 + _ ≤ _; exact Nat.le_of_eq rfl) (hb hby own_d_jdk_42_method_155_code_5) (fun _ _ => ⟨rfl, e1, (by decide : 0 + 0 ≤ _), (by decide : 0 + 0 ≤ _)⟩)
    dsimp only [Pt.U, Pt.locs, Pt.cells, Pt.slots] at X2 l2 y2 z2 st2 hQ2
    subst l2 y2 z2
    obtain ⟨rfl, N2q, e2⟩ := hQ2
    have N2 := Fr.app N0 N2q
    have pre3 : ∀ tt_, Steps p.tables e below (T2.setTop (mkF m 9 #[.val (.int i), .val (.int n)] [])) tt_ → Steps p.tables e below (s₁.setTop (entryFrame m #[(.int i), (.int n)] 2)) tt_ := fun tt_ kk_ => pre0 tt_ (by
      show Steps p.tables e below (s₁.setTop (mkF m 0 #[.val (.int i), .val (.int n)] [])) _
      refine XS.iloadN X0.here hx rfl (hb hby own_d_jdk_42_method_155_code_0) rfl ?_
      show Steps p.tables e below (s₁.setTop (mkF m 1 #[.val (.int i), .val (.int n)] [(.int i)])) _
      refine XS.iloadN X0.here hx rfl (hb hby own_d_jdk_42_method_155_code_1) rfl ?_
      show Steps p.tables e below (s₁.setTop (mkF m 2 #[.val (.int i), .val (.int n)] [(.int n), (.int i)])) _
      refine st1 _ ?_
      show Steps p.tables e below (T1.setTop (mkF m 5 #[.val (.int i), .val (.int n)] [.null, (.int n), (.int i)])) _
      refine st2 _ ?_
      show Steps p.tables e below (T2.setTop (mkF m 8 #[.val (.int i), .val (.int n)] [(.int i)])) _
      refine XS.pop X2.here hx rfl (hb hby own_d_jdk_42_method_155_code_8) rfl rfl ?_
      exact kk_)
    obtain ⟨fs, hr, hrun, hended, hW, hsame⟩ := X2.leave (v := none) (fun _ => rfl)
    refine ⟨_, _, pre3 _ ?_, hrun, hended, _, _, rfl, ?_, ⟨_, rfl⟩, hW, hsame.mono (by decide) (by decide)⟩
    · show Steps p.tables e below (T2.setTop (mkF m 9 #[.val (.int i), .val (.int n)] [])) _
      exact X2.returnOut hx Bd.returns (hb hby own_d_jdk_42_method_155_code_9) hr
    · show QN h0 n0 _ T2.heap _
      rw [e2]
      exact ⟨rfl, N2, rfl⟩
  · obtain ⟨T4, X4, e4, st4⟩ := getS2 X0 hx hZ hown (host := "") (Or.inl (hw _ (List.mem_of_getElem? (i := 38) rfl))) Via.refl e0 S_FM (g := (mkF m 2 #[.val (.int i), .val (.int n)] [(.int n), (.int i)])) rfl (hb hby own_d_jdk_42_method_155_code_2)
    obtain ⟨_, _, ⟨T5, L5, k5, n5⟩, -, X5, ⟨Lc5, hQ5, l5, y5, z5⟩, st5⟩ := Jvm.LawKit.callS X4 hx (y := (⟨"jdk/internal/util/Preconditions", "checkIndex", "(IILjava/util/function/BiFunction;)I"⟩ : MethodName)) hown (mvT hZ (hw _ (List.mem_of_getElem? (i := 40) rfl))) (mvT hZ (hw _ (List.mem_of_getElem? (i := 41) rfl))) (mvT hZ (hw _ (List.mem_of_getElem? (i := 39) rfl))) (mvT hZ (hw _ (List.mem_of_getElem? (i := 42) rfl))) (by decide) (backOf (W := 0) (rmPr l Z a0 hw [] i n fa  h0 n0 Z0 hi) hZ (hw _ (List.mem_of_getElem? (i := 42) rfl)) (hw _ (List.mem_of_getElem? (i := 39) rfl)) (by decide) (by decide)) (g := (mkF m 5 #[.val (.int i), .val (.int n)] [(.ref fa), (.int n), (.int i)])) rfl (by rw [hml]; rfl) (argsL := [(.int i), (.int n), (.ref fa)]) (rest := []) (lenOf own_pd0 rfl) rfl (by show 2 * 0 + _ ≤ _; exact Nat.le_of_eq rfl) (hb hby own_d_jdk_42_method_155_code_5) (fun _ _ => ⟨rfl, e4, (by decide : 0 + 0 ≤ _), (by decide : 0 + 0 ≤ _)⟩)
    dsimp only [Pt.U, Pt.locs, Pt.cells, Pt.slots] at X5 l5 y5 z5 st5 hQ5
    subst l5 y5 z5
    obtain ⟨rfl, N5q, e5⟩ := hQ5
    have N5 := Fr.app N0 N5q
    have pre6 : ∀ tt_, Steps p.tables e below (T5.setTop (mkF m 9 #[.val (.int i), .val (.int n)] [])) tt_ → Steps p.tables e below (s₁.setTop (entryFrame m #[(.int i), (.int n)] 2)) tt_ := fun tt_ kk_ => pre0 tt_ (by
      show Steps p.tables e below (s₁.setTop (mkF m 0 #[.val (.int i), .val (.int n)] [])) _
      refine XS.iloadN X0.here hx rfl (hb hby own_d_jdk_42_method_155_code_0) rfl ?_
      show Steps p.tables e below (s₁.setTop (mkF m 1 #[.val (.int i), .val (.int n)] [(.int i)])) _
      refine XS.iloadN X0.here hx rfl (hb hby own_d_jdk_42_method_155_code_1) rfl ?_
      show Steps p.tables e below (s₁.setTop (mkF m 2 #[.val (.int i), .val (.int n)] [(.int n), (.int i)])) _
      refine st4 _ ?_
      show Steps p.tables e below (T4.setTop (mkF m 5 #[.val (.int i), .val (.int n)] [(.ref fa), (.int n), (.int i)])) _
      refine st5 _ ?_
      show Steps p.tables e below (T5.setTop (mkF m 8 #[.val (.int i), .val (.int n)] [(.int i)])) _
      refine XS.pop X5.here hx rfl (hb hby own_d_jdk_42_method_155_code_8) rfl rfl ?_
      exact kk_)
    obtain ⟨fs, hr, hrun, hended, hW, hsame⟩ := X5.leave (v := none) (fun _ => rfl)
    refine ⟨_, _, pre6 _ ?_, hrun, hended, _, _, rfl, ?_, ⟨_, rfl⟩, hW, hsame.mono (by decide) (by decide)⟩
    · show Steps p.tables e below (T5.setTop (mkF m 9 #[.val (.int i), .val (.int n)] [])) _
      exact X5.returnOut hx Bd.returns (hb hby own_d_jdk_42_method_155_code_9) hr
    · show QN h0 n0 _ T5.heap _
      rw [e5]
      exact ⟨rfl, N5, rfl⟩
theorem own_ef_rmL (m : MethodId) (y0 : Addr) (y1 : Int32) : entryFrame m #[(.ref y0), (.int y1)] 2 = mkF m 0 #[.val (.ref y0), .val (.int y1)] [] := by first | (simp [entryFrame, mkF, argsToLocals, Value.category]; done) | rfl
set_option maxRecDepth 65536 in
set_option maxHeartbeats 40000000 in
theorem rmL (l : Launch) (Z : State) (a0 : Array Value) (hw : ∀ d ∈ tables_1, d.before a0 Z = true) (ws : List Jvm.Cond) (t : Addr) (i : Int32) (fm : Value) (kb : ClassId) (bb : Int32) (h0 : Heap) (n0 : Nat) (Z0 : n0 ≤ h0.size) (S_FM : Sta Z h0 "jdk/internal/util/Preconditions" "SIOOBE_FORMATTER" "Ljava/util/function/BiFunction;" fm) (P_FM : fm.isRef = true) (A : Arv Z h0 t kb .byte (Int32.ofNat 16) (own_cs.map Value.int) (.int 0)) (hi : ¬ i < 0 ∧ i < (Int32.ofNat 16)) (hv : (own_cs.map Value.int).getD i.toNatClampNeg (.int 0) = .int bb) (h1 : nar .char ((bb &&& (255 : Int32)).toUInt32.toUInt16.toUInt32.toInt32) = bb) :
    MetFree l (⟨"java/lang/StringLatin1", "charAt", "([BI)C"⟩ : MethodName) (head1 (Jvm.Cond.code (⟨"java/lang/StringLatin1", "charAt", "([BI)C"⟩ : MethodName) jdk_43_method_2_code 2 (some .char) :: ws) ({ frames := 2, cells := 0, slots := 0, locals := 27 } : Room)) (fun ar_ U => ar_ = #[(.ref t), (.int i)] ∧ Z.Warmed39 U.vm ∧ U.heap = h0) (fun _ _ _ _ _ => True) (fun _ U o U' => ∃ v L, o = .returned v ∧ QP (.int bb) h0 n0 v U'.heap L ∧ FrameEnd U o U' L ({ frames := 2, cells := 0, slots := 0, locals := 27 } : Room).cells ({ frames := 2, cells := 0, slots := 0, locals := 27 } : Room).slots) := by
  refine MetFree.of_bodySF (plainFor_of_name own_pn4) hisR ?_
  intro p e s m args below meth c s₁ Bd hml0 hP hK
  obtain ⟨rfl, hZ, hh⟩ := hP
  have hx := Bd.exec
  have hby := Bd.bytes
  have hml : c.maxLocals = 2 := hml0
  have hown : s.vm.findClass "java/lang/StringLatin1" = some m.cls := findClass_of_methodNamed Bd.named
  have hnm := (name_of_methodNamed Bd.named Bd.method).1
  have X0 : Stand p l e ({ frames := 2, cells := 0, slots := 0, locals := 27 } : Room) s m #[(.ref t), (.int i)] below meth c s₁ [] 0 0 := Stand.of_body Bd
  have e0 : s₁.heap = h0 := by rw [← hh, Bd.state]; rfl
  have N0 := Fr.nil n0
  have pre0 : ∀ tt_, Steps p.tables e below (s₁.setTop (mkF m 0 #[.val (.ref t), .val (.int i)] [])) tt_ → Steps p.tables e below (s₁.setTop (entryFrame m #[(.ref t), (.int i)] 2)) tt_ := fun tt_ kk_ => castTop (own_ef_rmL m t i) kk_
  obtain ⟨cl1, Ar1, q1, S1, M1, H1, G1⟩ := id A
  obtain ⟨_, _, ⟨T2, L2, k2, n2⟩, -, X2, ⟨Lc2, hQ2, l2, y2, z2⟩, st2⟩ := Jvm.LawKit.callS X0 hx (y := (⟨"java/lang/String", "checkIndex", "(II)V"⟩ : MethodName)) hown (mvT hZ (hw _ (List.mem_of_getElem? (i := 35) rfl))) (mvT hZ (hw _ (List.mem_of_getElem? (i := 36) rfl))) (mvT hZ (hw _ (List.mem_of_getElem? (i := 11) rfl))) (mvT hZ (hw _ (List.mem_of_getElem? (i := 37) rfl))) (by decide) (backOf (W := 0) (rmS l Z a0 hw [] i (Int32.ofNat 16) fm h0 n0 Z0 S_FM P_FM hi) hZ (hw _ (List.mem_of_getElem? (i := 37) rfl)) (hw _ (List.mem_of_getElem? (i := 11) rfl)) (by decide) (by decide)) (g := (mkF m 3 #[.val (.ref t), .val (.int i)] [(.int (Int32.ofNat 16)), (.int i)])) rfl (by rw [hml]; rfl) (argsL := [(.int i), (.int (Int32.ofNat 16))]) (rest := []) (lenOf own_pd1 rfl) rfl (by show 2 * 0 + _ ≤ _; exact Nat.le_of_eq rfl) (hb hby own_d_jdk_43_method_2_code_3) (fun _ _ => ⟨rfl, e0, (by decide : 0 + 0 ≤ _), (by decide : 0 + 0 ≤ _)⟩)
  dsimp only [Pt.U, Pt.locs, Pt.cells, Pt.slots] at X2 l2 y2 z2 st2 hQ2
  subst l2 y2 z2
  obtain ⟨rfl, N2q, e2⟩ := hQ2
  have N2 := Fr.app N0 N2q
  obtain ⟨cl3, Ar3, q3, S3, M3, H3, G3⟩ := id A
  have hin3 : ¬ (i < 0 ∨ cl3.slots.size ≤ (i).toNatClampNeg) := inb_of S3 hi
  have hat3 : cl3.slots[(i).toNatClampNeg]? = some (.int bb) := Has.at H3 hin3 hv
  have pre4 : ∀ tt_, Steps p.tables e below (T2.setTop (mkF m 14 #[.val (.ref t), .val (.int i)] [(.int ((bb &&& (255 : Int32)).toUInt32.toUInt16.toUInt32.toInt32))])) tt_ → Steps p.tables e below (s₁.setTop (entryFrame m #[(.ref t), (.int i)] 2)) tt_ := fun tt_ kk_ => pre0 tt_ (by
    show Steps p.tables e below (s₁.setTop (mkF m 0 #[.val (.ref t), .val (.int i)] [])) _
    refine XS.iloadN X0.here hx rfl (hb hby own_d_jdk_43_method_2_code_0) rfl ?_
    show Steps p.tables e below (s₁.setTop (mkF m 1 #[.val (.ref t), .val (.int i)] [(.int i)])) _
    refine XS.aloadN X0.here hx rfl (hb hby own_d_jdk_43_method_2_code_1) rfl rfl ?_
    show Steps p.tables e below (s₁.setTop (mkF m 2 #[.val (.ref t), .val (.int i)] [(.ref t), (.int i)])) _
    refine X0.arraylength hx (by rw [e0]; exact Ar1.1) (State.isArrayOf_alike hZ.alike Ar1.2.1) (g := (mkF m 2 #[.val (.ref t), .val (.int i)] [(.ref t), (.int i)])) rfl rfl (hb hby own_d_jdk_43_method_2_code_2) _ ?_
    rw [len_of S1 M1]
    show Steps p.tables e below (s₁.setTop (mkF m 3 #[.val (.ref t), .val (.int i)] [(.int (Int32.ofNat 16)), (.int i)])) _
    refine st2 _ ?_
    show Steps p.tables e below (T2.setTop (mkF m 6 #[.val (.ref t), .val (.int i)] [])) _
    refine XS.aloadN X2.here hx rfl (hb hby own_d_jdk_43_method_2_code_6) rfl rfl ?_
    show Steps p.tables e below (T2.setTop (mkF m 7 #[.val (.ref t), .val (.int i)] [(.ref t)])) _
    refine XS.iloadN X2.here hx rfl (hb hby own_d_jdk_43_method_2_code_7) rfl ?_
    show Steps p.tables e below (T2.setTop (mkF m 8 #[.val (.ref t), .val (.int i)] [(.int i), (.ref t)])) _
    refine X2.baloadBytes hx (j := i) (v := (.int bb)) (by rw [e2]; exact Ar3.1) (State.isArrayOf_alike hZ.alike Ar3.2.1) Ar3.2.2 hin3 hat3 (g := (mkF m 8 #[.val (.ref t), .val (.int i)] [(.int i), (.ref t)])) rfl rfl (hb hby own_d_jdk_43_method_2_code_8) _ ?_
    show Steps p.tables e below (T2.setTop (mkF m 9 #[.val (.ref t), .val (.int i)] [(.int bb)])) _
    refine XS.sipush X2.here hx rfl (hb hby own_d_jdk_43_method_2_code_9) ?_
    show Steps p.tables e below (T2.setTop (mkF m 12 #[.val (.ref t), .val (.int i)] [(.int (255 : Int32)), (.int bb)])) _
    refine XS.iand X2.here hx rfl (hb hby own_d_jdk_43_method_2_code_12) rfl ?_
    show Steps p.tables e below (T2.setTop (mkF m 13 #[.val (.ref t), .val (.int i)] [(.int (bb &&& (255 : Int32)))])) _
    refine XS.i2c X2.here hx rfl (hb hby own_d_jdk_43_method_2_code_13) rfl ?_
    exact kk_)
  obtain ⟨fs, hr, hrun, hended, hW, hsame⟩ := X2.leave (v := some (.int (nar .char ((bb &&& (255 : Int32)).toUInt32.toUInt16.toUInt32.toInt32)))) (fun h => by rw [Bd.returns] at h; cases h)
  refine ⟨_, _, pre4 _ ?_, hrun, hended, _, _, rfl, ?_, ⟨_, rfl⟩, hW, hsame.mono (by decide) (by decide)⟩
  · show Steps p.tables e below (T2.setTop (mkF m 14 #[.val (.ref t), .val (.int i)] [(.int ((bb &&& (255 : Int32)).toUInt32.toUInt16.toUInt32.toInt32))])) _
    exact retN X2 hx (t := .char) Bd.returns (by simp) (hb hby own_d_jdk_43_method_2_code_14) hr
  · show QP (.int bb) h0 n0 _ T2.heap _
    rw [e2]
    exact ⟨by rw [h1], N2, rfl⟩
theorem own_ef_rmT (m : MethodId) (y0 : Addr) : entryFrame m #[(.ref y0)] 1 = mkF m 0 #[.val (.ref y0)] [] := by first | (simp [entryFrame, mkF, argsToLocals, Value.category]; done) | rfl
set_option maxRecDepth 65536 in
set_option maxHeartbeats 40000000 in
theorem rmT (l : Launch) (Z : State) (a0 : Array Value) (hw : ∀ d ∈ tables_1, d.before a0 Z = true) (ws : List Jvm.Cond) (a : Addr) (cs0 : Int32) (h0 : Heap) (n0 : Nat) (Z0 : n0 ≤ h0.size) (S_CS : Sta Z h0 "java/lang/String" "COMPACT_STRINGS" "Z" (.int cs0)) (P_CS : ¬ cs0 = 0) (F : Fld Z h0 a "java/lang/String" "coder" "B" (.int 0)) :
    MetFree l (⟨"java/lang/String", "isLatin1", "()Z"⟩ : MethodName) (head1 (Jvm.Cond.code (⟨"java/lang/String", "isLatin1", "()Z"⟩ : MethodName) jdk_42_method_154_code 1 (some .boolean) :: ws) ({ frames := 0, cells := 0, slots := 0, locals := 0 } : Room)) (fun ar_ U => ar_ = #[(.ref a)] ∧ Z.Warmed39 U.vm ∧ U.heap = h0) (fun _ _ _ _ _ => True) (fun _ U o U' => ∃ v L, o = .returned v ∧ QP (.int (1 : Int32)) h0 n0 v U'.heap L ∧ FrameEnd U o U' L ({ frames := 0, cells := 0, slots := 0, locals := 0 } : Room).cells ({ frames := 0, cells := 0, slots := 0, locals := 0 } : Room).slots) := by
  refine MetFree.of_bodySF (plainFor_of_name own_pn3) hisR ?_
  intro p e s m args below meth c s₁ Bd hml0 hP hK
  obtain ⟨rfl, hZ, hh⟩ := hP
  have hx := Bd.exec
  have hby := Bd.bytes
  have hml : c.maxLocals = 1 := hml0
  have hown : s.vm.findClass "java/lang/String" = some m.cls := findClass_of_methodNamed Bd.named
  have hnm := (name_of_methodNamed Bd.named Bd.method).1
  have X0 : Stand p l e ({ frames := 0, cells := 0, slots := 0, locals := 0 } : Room) s m #[(.ref a)] below meth c s₁ [] 0 0 := Stand.of_body Bd
  have e0 : s₁.heap = h0 := by rw [← hh, Bd.state]; rfl
  have N0 := Fr.nil n0
  have pre0 : ∀ tt_, Steps p.tables e below (s₁.setTop (mkF m 0 #[.val (.ref a)] [])) tt_ → Steps p.tables e below (s₁.setTop (entryFrame m #[(.ref a)] 1)) tt_ := fun tt_ kk_ => castTop (own_ef_rmT m a) kk_
  obtain ⟨T1, X1, e1, st1⟩ := getS2 X0 hx hZ hown (host := "") (Or.inl (hw _ (List.mem_of_getElem? (i := 28) rfl))) Via.refl e0 S_CS (g := (mkF m 0 #[.val (.ref a)] [])) rfl (hb hby own_d_jdk_42_method_154_code_0)
  obtain ⟨T2, X2, e2, st2⟩ := getF X1 hx hZ hown (host := "") (Or.inl (hw _ (List.mem_of_getElem? (i := 29) rfl))) Via.refl e1 F (g := (mkF m 7 #[.val (.ref a)] [(.ref a)])) rfl rfl (hb hby own_d_jdk_42_method_154_code_7)
  have pre3 : ∀ tt_, Steps p.tables e below (T2.setTop (mkF m 18 #[.val (.ref a)] [(.int (1 : Int32))])) tt_ → Steps p.tables e below (s₁.setTop (entryFrame m #[(.ref a)] 1)) tt_ := fun tt_ kk_ => pre0 tt_ (by
    show Steps p.tables e below (s₁.setTop (mkF m 0 #[.val (.ref a)] [])) _
    refine st1 _ ?_
    show Steps p.tables e below (T1.setTop (mkF m 3 #[.val (.ref a)] [(.int cs0)])) _
    refine XS.ifNo X1.here hx rfl (hb hby own_d_jdk_42_method_154_code_3) rfl ((if0 _ _).trans (feq (P_CS : ¬ (cs0 = (0 : Int32)))).1) ?_
    show Steps p.tables e below (T1.setTop (mkF m 6 #[.val (.ref a)] [])) _
    refine XS.aloadN X1.here hx rfl (hb hby own_d_jdk_42_method_154_code_6) rfl rfl ?_
    show Steps p.tables e below (T1.setTop (mkF m 7 #[.val (.ref a)] [(.ref a)])) _
    refine st2 _ ?_
    show Steps p.tables e below (T2.setTop (mkF m 10 #[.val (.ref a)] [(.int (0 : Int32))])) _
    refine XS.ifNo X2.here hx rfl (hb hby own_d_jdk_42_method_154_code_10) rfl ((if0 _ _).trans (teq ((by decide) : (0 : Int32) = (0 : Int32))).2) ?_
    show Steps p.tables e below (T2.setTop (mkF m 13 #[.val (.ref a)] [])) _
    refine XS.iconst X2.here hx rfl (hb hby own_d_jdk_42_method_154_code_13) ?_
    show Steps p.tables e below (T2.setTop (mkF m 14 #[.val (.ref a)] [(.int (1 : Int32))])) _
    refine XS.goto X2.here hx rfl (pc0 := 14) (pc' := 18) rfl (hb hby own_d_jdk_42_method_154_code_14) (by decide) (by decide) ?_
    exact kk_)
  obtain ⟨fs, hr, hrun, hended, hW, hsame⟩ := X2.leave (v := some (.int (nar .boolean (1 : Int32)))) (fun h => by rw [Bd.returns] at h; cases h)
  refine ⟨_, _, pre3 _ ?_, hrun, hended, _, _, rfl, ?_, ⟨_, rfl⟩, hW, hsame.mono (by decide) (by decide)⟩
  · show Steps p.tables e below (T2.setTop (mkF m 18 #[.val (.ref a)] [(.int (1 : Int32))])) _
    exact retN X2 hx (t := .boolean) Bd.returns (by simp) (hb hby own_d_jdk_42_method_154_code_18) hr
  · show QP (.int (1 : Int32)) h0 n0 _ T2.heap _
    rw [e2]
    exact ⟨rfl, N0, rfl⟩
theorem own_ef_rmC (m : MethodId) (y0 : Addr) (y1 : Int32) : entryFrame m #[(.ref y0), (.int y1)] 2 = mkF m 0 #[.val (.ref y0), .val (.int y1)] [] := by first | (simp [entryFrame, mkF, argsToLocals, Value.category]; done) | rfl
set_option maxRecDepth 65536 in
set_option maxHeartbeats 40000000 in
theorem rmC (l : Launch) (Z : State) (a0 : Array Value) (hw : ∀ d ∈ tables_1, d.before a0 Z = true) (ws : List Jvm.Cond) (a : Addr) (i cs0 : Int32) (fm : Value) (t : Addr) (kb : ClassId) (bb : Int32) (h0 : Heap) (n0 : Nat) (Z0 : n0 ≤ h0.size) (S_CS : Sta Z h0 "java/lang/String" "COMPACT_STRINGS" "Z" (.int cs0)) (P_CS : ¬ cs0 = 0) (S_FM : Sta Z h0 "jdk/internal/util/Preconditions" "SIOOBE_FORMATTER" "Ljava/util/function/BiFunction;" fm) (P_FM : fm.isRef = true) (E : Exa Z h0 a "java/lang/String") (Fv : Fld Z h0 a "java/lang/String" "value" "[B" (.ref t)) (Fc : Fld Z h0 a "java/lang/String" "coder" "B" (.int 0)) (A : Arv Z h0 t kb .byte (Int32.ofNat 16) (own_cs.map Value.int) (.int 0)) (hi : ¬ i < 0 ∧ i < (Int32.ofNat 16)) (hv : (own_cs.map Value.int).getD i.toNatClampNeg (.int 0) = .int bb) (h1 : nar .char ((bb &&& (255 : Int32)).toUInt32.toUInt16.toUInt32.toInt32) = bb) (h2 : nar .char bb = bb) :
    MetFree l (⟨"java/lang/String", "charAt", "(I)C"⟩ : MethodName) (head1 (Jvm.Cond.code (⟨"java/lang/String", "charAt", "(I)C"⟩ : MethodName) jdk_42_method_56_code 2 (some .char) :: ws) ({ frames := 3, cells := 0, slots := 0, locals := 40 } : Room)) (fun ar_ U => ar_ = #[(.ref a), (.int i)] ∧ Z.Warmed39 U.vm ∧ U.heap = h0) (fun _ _ _ _ _ => True) (fun _ U o U' => ∃ v L, o = .returned v ∧ QP (.int bb) h0 n0 v U'.heap L ∧ FrameEnd U o U' L ({ frames := 3, cells := 0, slots := 0, locals := 40 } : Room).cells ({ frames := 3, cells := 0, slots := 0, locals := 40 } : Room).slots) := by
  refine MetFree.of_bodySF (plainFor_of_name own_pn3) hisR ?_
  intro p e s m args below meth c s₁ Bd hml0 hP hK
  obtain ⟨rfl, hZ, hh⟩ := hP
  have hx := Bd.exec
  have hby := Bd.bytes
  have hml : c.maxLocals = 2 := hml0
  have hown : s.vm.findClass "java/lang/String" = some m.cls := findClass_of_methodNamed Bd.named
  have hnm := (name_of_methodNamed Bd.named Bd.method).1
  have X0 : Stand p l e ({ frames := 3, cells := 0, slots := 0, locals := 40 } : Room) s m #[(.ref a), (.int i)] below meth c s₁ [] 0 0 := Stand.of_body Bd
  have e0 : s₁.heap = h0 := by rw [← hh, Bd.state]; rfl
  have N0 := Fr.nil n0
  have pre0 : ∀ tt_, Steps p.tables e below (s₁.setTop (mkF m 0 #[.val (.ref a), .val (.int i)] [])) tt_ → Steps p.tables e below (s₁.setTop (entryFrame m #[(.ref a), (.int i)] 2)) tt_ := fun tt_ kk_ => castTop (own_ef_rmC m a i) kk_
  obtain ⟨cq1, kq1, q1a, q1b, q1c⟩ := isOf hZ e0 E
  obtain ⟨_, _, ⟨T1, L1, k1, n1⟩, -, X1, ⟨Lc1, hQ1, l1, y1, z1⟩, st1⟩ := X0.virtualBack hx (y := (⟨"java/lang/String", "isLatin1", "()Z"⟩ : MethodName)) (z := (⟨"java/lang/String", "isLatin1", "()Z"⟩ : MethodName)) hown (mvT hZ (hw _ (List.mem_of_getElem? (i := 23) rfl))) (mvT hZ (hw _ (List.mem_of_getElem? (i := 24) rfl))) (notFace_of_selects (args := #[]) (mvT hZ (hw _ (List.mem_of_getElem? (i := 26) rfl)))) (mvT hZ (hw _ (List.mem_of_getElem? (i := 26) rfl))) (mvT hZ (hw _ (List.mem_of_getElem? (i := 25) rfl))) (by decide) (backOf (W := 0) (rmT l Z a0 hw [] a cs0 h0 n0 Z0 S_CS P_CS Fc) hZ (hw _ (List.mem_of_getElem? (i := 27) rfl)) (hw _ (List.mem_of_getElem? (i := 11) rfl)) (by decide) (by decide)) q1a q1c (g := (mkF m 1 #[.val (.ref a), .val (.int i)] [(.ref a)])) rfl (by rw [hml]; rfl) (Steps.refl _) (argsL := []) (rest := []) (lenOf own_pd2 rfl) rfl (by show 2 * 0 + _ ≤ _; exact Nat.le_of_eq rfl) (hb hby own_d_jdk_42_method_56_code_1) (fun _ _ => ⟨rfl, e0, (by decide : 0 + 0 ≤ _), (by decide : 0 + 0 ≤ _)⟩)
  dsimp only [Pt.U, Pt.locs, Pt.cells, Pt.slots] at X1 l1 y1 z1 st1 hQ1
  subst l1 y1 z1
  obtain ⟨rfl, N1q, e1⟩ := hQ1
  have N1 := Fr.app N0 N1q
  obtain ⟨T2, X2, e2, st2⟩ := getF X1 hx hZ hown (host := "") (Or.inl (hw _ (List.mem_of_getElem? (i := 30) rfl))) Via.refl e1 Fv (g := (mkF m 8 #[.val (.ref a), .val (.int i)] [(.ref a)])) rfl rfl (hb hby own_d_jdk_42_method_56_code_8)
  obtain ⟨_, _, ⟨T3, L3, k3, n3⟩, -, X3, ⟨Lc3, hQ3, l3, y3, z3⟩, st3⟩ := Jvm.LawKit.callS X2 hx (y := (⟨"java/lang/StringLatin1", "charAt", "([BI)C"⟩ : MethodName)) hown (mvT hZ (hw _ (List.mem_of_getElem? (i := 31) rfl))) (mvT hZ (hw _ (List.mem_of_getElem? (i := 32) rfl))) (mvT hZ (hw _ (List.mem_of_getElem? (i := 33) rfl))) (mvT hZ (hw _ (List.mem_of_getElem? (i := 34) rfl))) (by decide) (backOf (W := 0) (rmL l Z a0 hw [] t i fm kb bb h0 n0 Z0 S_FM P_FM A hi hv h1) hZ (hw _ (List.mem_of_getElem? (i := 34) rfl)) (hw _ (List.mem_of_getElem? (i := 33) rfl)) (by decide) (by decide)) (g := (mkF m 12 #[.val (.ref a), .val (.int i)] [(.int i), (.ref t)])) rfl (by rw [hml]; rfl) (argsL := [(.ref t), (.int i)]) (rest := []) (lenOf own_pd3 rfl) rfl (by show 2 * 0 + _ ≤ _; exact Nat.le_of_eq rfl) (hb hby own_d_jdk_42_method_56_code_12) (fun _ _ => ⟨rfl, e2, (by decide : 0 + 0 ≤ _), (by decide : 0 + 0 ≤ _)⟩)
  dsimp only [Pt.U, Pt.locs, Pt.cells, Pt.slots] at X3 l3 y3 z3 st3 hQ3
  subst l3 y3 z3
  obtain ⟨rfl, N3q, e3⟩ := hQ3
  have N3 := Fr.app N1 N3q
  have pre4 : ∀ tt_, Steps p.tables e below (T3.setTop (mkF m 15 #[.val (.ref a), .val (.int i)] [(.int bb)])) tt_ → Steps p.tables e below (s₁.setTop (entryFrame m #[(.ref a), (.int i)] 2)) tt_ := fun tt_ kk_ => pre0 tt_ (by
    show Steps p.tables e below (s₁.setTop (mkF m 0 #[.val (.ref a), .val (.int i)] [])) _
    refine XS.aloadN X0.here hx rfl (hb hby own_d_jdk_42_method_56_code_0) rfl rfl ?_
    show Steps p.tables e below (s₁.setTop (mkF m 1 #[.val (.ref a), .val (.int i)] [(.ref a)])) _
    refine st1.trans ?_
    show Steps p.tables e below (T1.setTop (mkF m 4 #[.val (.ref a), .val (.int i)] [(.int (1 : Int32))])) _
    refine XS.ifNo X1.here hx rfl (hb hby own_d_jdk_42_method_56_code_4) rfl ((if0 _ _).trans (feq ((by decide) : ¬ ((1 : Int32) = (0 : Int32)))).1) ?_
    show Steps p.tables e below (T1.setTop (mkF m 7 #[.val (.ref a), .val (.int i)] [])) _
    refine XS.aloadN X1.here hx rfl (hb hby own_d_jdk_42_method_56_code_7) rfl rfl ?_
    show Steps p.tables e below (T1.setTop (mkF m 8 #[.val (.ref a), .val (.int i)] [(.ref a)])) _
    refine st2 _ ?_
    show Steps p.tables e below (T2.setTop (mkF m 11 #[.val (.ref a), .val (.int i)] [(.ref t)])) _
    refine XS.iloadN X2.here hx rfl (hb hby own_d_jdk_42_method_56_code_11) rfl ?_
    show Steps p.tables e below (T2.setTop (mkF m 12 #[.val (.ref a), .val (.int i)] [(.int i), (.ref t)])) _
    refine st3 _ ?_
    exact kk_)
  obtain ⟨fs, hr, hrun, hended, hW, hsame⟩ := X3.leave (v := some (.int (nar .char bb))) (fun h => by rw [Bd.returns] at h; cases h)
  refine ⟨_, _, pre4 _ ?_, hrun, hended, _, _, rfl, ?_, ⟨_, rfl⟩, hW, hsame.mono (by decide) (by decide)⟩
  · show Steps p.tables e below (T3.setTop (mkF m 15 #[.val (.ref a), .val (.int i)] [(.int bb)])) _
    exact retN X3 hx (t := .char) Bd.returns (by simp) (hb hby own_d_jdk_42_method_56_code_15) hr
  · show QP (.int bb) h0 n0 _ T3.heap _
    rw [e3]
    exact ⟨by rw [h2], N3, rfl⟩
theorem own_ef_rm0 (m : MethodId) (y0 : Int32) (y1 : Int32) : entryFrame m #[(.int y0), (.int y1)] maxLocals = mkF m 0 #[.val (.int y0), .val (.int y1), .unset, .unset, .unset, .unset, .unset, .unset] [] := by first | (simp [entryFrame, mkF, argsToLocals, Value.category, maxLocals]; done) | rfl
set_option maxRecDepth 65536 in
set_option maxHeartbeats 40000000 in
theorem rm0 (l : Launch) (Z : State) (a0 : Array Value) (hw : ∀ d ∈ tables_1, d.before a0 Z = true) (ws : List Jvm.Cond) (p1 p2 cs0 : Int32) (fm : Value) (h0 : Heap) (n0 : Nat) (Z0 : n0 ≤ h0.size) (S_CS : Sta Z h0 "java/lang/String" "COMPACT_STRINGS" "Z" (.int cs0)) (P_CS : ¬ cs0 = 0) (S_FM : Sta Z h0 "jdk/internal/util/Preconditions" "SIOOBE_FORMATTER" "Ljava/util/function/BiFunction;" fm) (P_FM : fm.isRef = true) (hcw : Jvm.Lit.compactW.before a0 Z = true) (hcH : Jvm.Lit.constHeld Z "com/example/quillsign/quillsign/sigv4/SigV4IsSignatureDigitPinLaw" 23) (hZ0 : Z.heap = h0) (hn0 : n0 = h0.size) :
    MetFree l x (head1 (Jvm.Cond.code x code maxLocals ret :: ws) room_1) (fun ar_ U => ar_ = #[(.int p1), (.int p2)] ∧ Z.Warmed39 U.vm ∧ U.heap = h0 ∧ U.vm = Z.vm) (fun _ _ _ _ _ => True) (fun _ U o U' => ∃ v L, o = .returned v ∧ QL n0 v U'.heap L ∧ ReturnedEndW U o U' L 2 68) := by
  refine MetFree.of_bodySF (plainFor_of_name own_pn1) hisR ?_
  intro p e s m args below meth c s₁ Bd hml0 hP hK
  obtain ⟨rfl, hZ, hh, hvm⟩ := hP
  have hx := Bd.exec
  have hby := Bd.bytes
  have hml : c.maxLocals = 8 := hml0
  have hown : s.vm.findClass "com/example/quillsign/quillsign/sigv4/SigV4IsSignatureDigitPinLaw" = some m.cls := findClass_of_methodNamed Bd.named
  have hnm := (name_of_methodNamed Bd.named Bd.method).1
  have X0 : Stand p l e room_1 s m #[(.int p1), (.int p2)] below meth c s₁ [] 0 0 := Stand.of_body Bd
  have e0 : s₁.heap = h0 := by rw [← hh, Bd.state]; rfl
  have N0 := Fr.nil n0
  have pre0 : ∀ tt_, Steps p.tables e below (s₁.setTop (mkF m 0 #[.val (.int p1), .val (.int p2), .unset, .unset, .unset, .unset, .unset, .unset] [])) tt_ → Steps p.tables e below (s₁.setTop (entryFrame m #[(.int p1), (.int p2)] maxLocals)) tt_ := fun tt_ kk_ => castTop (own_ef_rm0 m p1 p2) kk_
  have own_wS : ∀ a ∈ Bundle.stringAtoms, a.before a0 Z = true := fun a ha => by
    simp only [Bundle.stringAtoms, List.mem_cons, List.not_mem_nil, or_false] at ha
    rcases ha with rfl | rfl | rfl | rfl | rfl | rfl | rfl
    · exact (hw _ (List.mem_of_getElem? (i := 11) rfl))
    · exact (hw _ (List.mem_of_getElem? (i := 12) rfl))
    · exact (hw _ (List.mem_of_getElem? (i := 13) rfl))
    · exact (hw _ (List.mem_of_getElem? (i := 14) rfl))
    · exact (hw _ (List.mem_of_getElem? (i := 15) rfl))
    · exact (hw _ (List.mem_of_getElem? (i := 16) rfl))
    · exact (hw _ (List.mem_of_getElem? (i := 17) rfl))
  obtain ⟨ci, hci, hcj⟩ := own_idx p2
  obtain ⟨_, _, ⟨T1, L1, k1, n1⟩, -, X1, ⟨Lc1, hQ1, l1, y1, z1⟩, st1⟩ := Jvm.LawKit.callS X0 hx (y := (⟨"com/example/quillsign/quillsign/sigv4/SigV4", "isSignatureDigit", "(I)Z"⟩ : MethodName)) hown (mvT hZ (hw _ (List.mem_of_getElem? (i := 0) rfl))) (mvT hZ (hw _ (List.mem_of_getElem? (i := 1) rfl))) (mvT hZ (hw _ (List.mem_of_getElem? (i := 2) rfl))) (mvT hZ (hw _ (List.mem_of_getElem? (i := 3) rfl))) (by decide) (backOf (W := 0) (rm1 l Z a0 hw [] p1  h0 n0 Z0 ) hZ (hw _ (List.mem_of_getElem? (i := 3) rfl)) (hw _ (List.mem_of_getElem? (i := 2) rfl)) (by decide) (by decide)) (g := (mkF m 1 #[.val (.int p1), .val (.int p2), .unset, .unset, .unset, .unset, .unset, .unset] [(.int p1)])) rfl (by rw [hml]; rfl) (argsL := [(.int p1)]) (rest := []) (lenOf own_pd4 rfl) rfl (by show 2 * 0 + _ ≤ _; exact Nat.le_of_eq rfl) (hb hby at_1) (fun _ _ => ⟨rfl, e0, (by decide : 0 + 0 ≤ _), (by decide : 0 + 0 ≤ _)⟩)
  dsimp only [Pt.U, Pt.locs, Pt.cells, Pt.slots] at X1 l1 y1 z1 st1 hQ1
  subst l1 y1 z1
  obtain ⟨rfl, N1q, e1⟩ := hQ1
  have N1 := Fr.app N0 N1q
  obtain ⟨_, _, ⟨T2, L2, k2, n2⟩, -, X2, ⟨Lc2, hQ2, l2, y2, z2⟩, st2⟩ := Jvm.LawKit.callS X1 hx (y := (⟨"com/example/quillsign/quillsign/sigv4/SigV4IsSignatureDigitPinLaw", "inTable", "(I)Z"⟩ : MethodName)) hown (mvT hZ (hw _ (List.mem_of_getElem? (i := 4) rfl))) (mvT hZ (hw _ (List.mem_of_getElem? (i := 5) rfl))) (mvT hZ (hw _ (List.mem_of_getElem? (i := 6) rfl))) (mvT hZ (hw _ (List.mem_of_getElem? (i := 7) rfl))) (by decide) (backOf (W := 1) (rm2 l Z a0 hw [] p1  h0 n0 Z0 ) hZ (hw _ (List.mem_of_getElem? (i := 7) rfl)) (hw _ (List.mem_of_getElem? (i := 6) rfl)) (by decide) (by decide)) (g := (mkF m 5 #[.val (.int p1), .val (.int p2), .unset, .unset, .unset, .unset, .unset, .unset] [(.int p1), (.int (own_dig p1))])) rfl (by rw [hml]; rfl) (argsL := [(.int p1)]) (rest := [(.int (own_dig p1))]) (lenOf own_pd4 rfl) rfl (by show 2 * 0 + _ ≤ _; exact Nat.le_of_eq rfl) (hb hby at_5) (fun _ _ => ⟨rfl, e1, (by decide : 0 + 0 ≤ _), (by decide : 0 + 0 ≤ _)⟩)
  dsimp only [Pt.U, Pt.locs, Pt.cells, Pt.slots] at X2 l2 y2 z2 st2 hQ2
  subst l2 y2 z2
  obtain ⟨rfl, N2q, e2⟩ := hQ2
  have N2 := Fr.app N1 N2q
  obtain ⟨_, _, ⟨T3, L3, k3, n3⟩, -, X3, ⟨Lc3, hQ3, l3, y3, z3⟩, st3⟩ := Jvm.LawKit.callS X2 hx (y := (⟨"com/example/quillsign/quillsign/sigv4/SigV4", "isSignatureDigit", "(I)Z"⟩ : MethodName)) hown (mvT hZ (hw _ (List.mem_of_getElem? (i := 0) rfl))) (mvT hZ (hw _ (List.mem_of_getElem? (i := 1) rfl))) (mvT hZ (hw _ (List.mem_of_getElem? (i := 2) rfl))) (mvT hZ (hw _ (List.mem_of_getElem? (i := 3) rfl))) (by decide) (backOf (W := 0) (rm1 l Z a0 hw [] (p2 &&& (65535 : Int32))  h0 n0 Z0 ) hZ (hw _ (List.mem_of_getElem? (i := 3) rfl)) (hw _ (List.mem_of_getElem? (i := 2) rfl)) (by decide) (by decide)) (g := (mkF m 23 #[.val (.int p1), .val (.int p2), .val (.int (1 : Int32)), .val (.int (p2 &&& (65535 : Int32))), .unset, .unset, .unset, .unset] [(.int (p2 &&& (65535 : Int32)))])) rfl (by rw [hml]; rfl) (argsL := [(.int (p2 &&& (65535 : Int32)))]) (rest := []) (lenOf own_pd4 rfl) rfl (by show 2 * 0 + _ ≤ _; exact Nat.le_of_eq rfl) (hb hby at_23) (fun _ _ => ⟨rfl, e2, (by decide : 0 + 0 ≤ _), (by decide : 0 + 0 ≤ _)⟩)
  dsimp only [Pt.U, Pt.locs, Pt.cells, Pt.slots] at X3 l3 y3 z3 st3 hQ3
  subst l3 y3 z3
  obtain ⟨rfl, N3q, e3⟩ := hQ3
  have N3 := Fr.app N2 N3q
  obtain ⟨_, _, ⟨T4, L4, k4, n4⟩, -, X4, ⟨Lc4, hQ4, l4, y4, z4⟩, st4⟩ := Jvm.LawKit.callS X3 hx (y := (⟨"com/example/quillsign/quillsign/sigv4/SigV4IsSignatureDigitPinLaw", "inTable", "(I)Z"⟩ : MethodName)) hown (mvT hZ (hw _ (List.mem_of_getElem? (i := 4) rfl))) (mvT hZ (hw _ (List.mem_of_getElem? (i := 5) rfl))) (mvT hZ (hw _ (List.mem_of_getElem? (i := 6) rfl))) (mvT hZ (hw _ (List.mem_of_getElem? (i := 7) rfl))) (by decide) (backOf (W := 1) (rm2 l Z a0 hw [] (p2 &&& (65535 : Int32))  h0 n0 Z0 ) hZ (hw _ (List.mem_of_getElem? (i := 7) rfl)) (hw _ (List.mem_of_getElem? (i := 6) rfl)) (by decide) (by decide)) (g := (mkF m 27 #[.val (.int p1), .val (.int p2), .val (.int (1 : Int32)), .val (.int (p2 &&& (65535 : Int32))), .unset, .unset, .unset, .unset] [(.int (p2 &&& (65535 : Int32))), (.int (own_dig (p2 &&& (65535 : Int32))))])) rfl (by rw [hml]; rfl) (argsL := [(.int (p2 &&& (65535 : Int32)))]) (rest := [(.int (own_dig (p2 &&& (65535 : Int32))))]) (lenOf own_pd4 rfl) rfl (by show 2 * 0 + _ ≤ _; exact Nat.le_of_eq rfl) (hb hby at_27) (fun _ _ => ⟨rfl, e3, (by decide : 0 + 0 ≤ _), (by decide : 0 + 0 ≤ _)⟩)
  dsimp only [Pt.U, Pt.locs, Pt.cells, Pt.slots] at X4 l4 y4 z4 st4 hQ4
  subst l4 y4 z4
  obtain ⟨rfl, N4q, e4⟩ := hQ4
  have N4 := Fr.app N3 N4q
  have pre5 : ∀ tt_, Steps p.tables e below (T4.setTop (mkF m 40 #[.val (.int p1), .val (.int p2), .val (.int (1 : Int32)), .val (.int (p2 &&& (65535 : Int32))), .val (.int (1 : Int32)), .unset, .unset, .unset] [])) tt_ → Steps p.tables e below (s₁.setTop (entryFrame m #[(.int p1), (.int p2)] maxLocals)) tt_ := fun tt_ kk_ => pre0 tt_ (by
    show Steps p.tables e below (s₁.setTop (mkF m 0 #[.val (.int p1), .val (.int p2), .unset, .unset, .unset, .unset, .unset, .unset] [])) _
    refine XS.iloadN X0.here hx rfl (hb hby at_0) rfl ?_
    show Steps p.tables e below (s₁.setTop (mkF m 1 #[.val (.int p1), .val (.int p2), .unset, .unset, .unset, .unset, .unset, .unset] [(.int p1)])) _
    refine st1 _ ?_
    show Steps p.tables e below (T1.setTop (mkF m 4 #[.val (.int p1), .val (.int p2), .unset, .unset, .unset, .unset, .unset, .unset] [(.int (own_dig p1))])) _
    refine XS.iloadN X1.here hx rfl (hb hby at_4) rfl ?_
    show Steps p.tables e below (T1.setTop (mkF m 5 #[.val (.int p1), .val (.int p2), .unset, .unset, .unset, .unset, .unset, .unset] [(.int p1), (.int (own_dig p1))])) _
    refine st2 _ ?_
    show Steps p.tables e below (T2.setTop (mkF m 8 #[.val (.int p1), .val (.int p2), .unset, .unset, .unset, .unset, .unset, .unset] [(.int (own_tab p1)), (.int (own_dig p1))])) _
    refine XS.icmpNo X2.here hx rfl (hb hby at_8) rfl (teq ((own_same _) : (own_dig p1) = (own_tab p1))).2 ?_
    show Steps p.tables e below (T2.setTop (mkF m 11 #[.val (.int p1), .val (.int p2), .unset, .unset, .unset, .unset, .unset, .unset] [])) _
    refine XS.iconst X2.here hx rfl (hb hby at_11) ?_
    show Steps p.tables e below (T2.setTop (mkF m 12 #[.val (.int p1), .val (.int p2), .unset, .unset, .unset, .unset, .unset, .unset] [(.int (1 : Int32))])) _
    refine XS.goto X2.here hx rfl (pc0 := 12) (pc' := 16) rfl (hb hby at_12) (by decide) (by decide) ?_
    show Steps p.tables e below (T2.setTop (mkF m 16 #[.val (.int p1), .val (.int p2), .unset, .unset, .unset, .unset, .unset, .unset] [(.int (1 : Int32))])) _
    refine XS.istoreN X2.here hx rfl (hb hby at_16) rfl (l' := #[.val (.int p1), .val (.int p2), .val (.int (1 : Int32)), .unset, .unset, .unset, .unset, .unset]) rfl ?_
    show Steps p.tables e below (T2.setTop (mkF m 17 #[.val (.int p1), .val (.int p2), .val (.int (1 : Int32)), .unset, .unset, .unset, .unset, .unset] [])) _
    refine XS.iloadN X2.here hx rfl (hb hby at_17) rfl ?_
    show Steps p.tables e below (T2.setTop (mkF m 18 #[.val (.int p1), .val (.int p2), .val (.int (1 : Int32)), .unset, .unset, .unset, .unset, .unset] [(.int p2)])) _
    refine X2.ldcInt hx hown (mvT hZ (hw _ (List.mem_of_getElem? (i := 9) rfl))) (g := (mkF m 18 #[.val (.int p1), .val (.int p2), .val (.int (1 : Int32)), .unset, .unset, .unset, .unset, .unset] [(.int p2)])) rfl (hb hby at_18) _ ?_
    show Steps p.tables e below (T2.setTop (mkF m 20 #[.val (.int p1), .val (.int p2), .val (.int (1 : Int32)), .unset, .unset, .unset, .unset, .unset] [(.int (65535 : Int32)), (.int p2)])) _
    refine XS.iand X2.here hx rfl (hb hby at_20) rfl ?_
    show Steps p.tables e below (T2.setTop (mkF m 21 #[.val (.int p1), .val (.int p2), .val (.int (1 : Int32)), .unset, .unset, .unset, .unset, .unset] [(.int (p2 &&& (65535 : Int32)))])) _
    refine XS.istoreN X2.here hx rfl (hb hby at_21) rfl (l' := #[.val (.int p1), .val (.int p2), .val (.int (1 : Int32)), .val (.int (p2 &&& (65535 : Int32))), .unset, .unset, .unset, .unset]) rfl ?_
    show Steps p.tables e below (T2.setTop (mkF m 22 #[.val (.int p1), .val (.int p2), .val (.int (1 : Int32)), .val (.int (p2 &&& (65535 : Int32))), .unset, .unset, .unset, .unset] [])) _
    refine XS.iloadN X2.here hx rfl (hb hby at_22) rfl ?_
    show Steps p.tables e below (T2.setTop (mkF m 23 #[.val (.int p1), .val (.int p2), .val (.int (1 : Int32)), .val (.int (p2 &&& (65535 : Int32))), .unset, .unset, .unset, .unset] [(.int (p2 &&& (65535 : Int32)))])) _
    refine st3 _ ?_
    show Steps p.tables e below (T3.setTop (mkF m 26 #[.val (.int p1), .val (.int p2), .val (.int (1 : Int32)), .val (.int (p2 &&& (65535 : Int32))), .unset, .unset, .unset, .unset] [(.int (own_dig (p2 &&& (65535 : Int32))))])) _
    refine XS.iloadN X3.here hx rfl (hb hby at_26) rfl ?_
    show Steps p.tables e below (T3.setTop (mkF m 27 #[.val (.int p1), .val (.int p2), .val (.int (1 : Int32)), .val (.int (p2 &&& (65535 : Int32))), .unset, .unset, .unset, .unset] [(.int (p2 &&& (65535 : Int32))), (.int (own_dig (p2 &&& (65535 : Int32))))])) _
    refine st4 _ ?_
    show Steps p.tables e below (T4.setTop (mkF m 30 #[.val (.int p1), .val (.int p2), .val (.int (1 : Int32)), .val (.int (p2 &&& (65535 : Int32))), .unset, .unset, .unset, .unset] [(.int (own_tab (p2 &&& (65535 : Int32)))), (.int (own_dig (p2 &&& (65535 : Int32))))])) _
    refine XS.icmpNo X4.here hx rfl (hb hby at_30) rfl (teq ((own_same _) : (own_dig (p2 &&& (65535 : Int32))) = (own_tab (p2 &&& (65535 : Int32))))).2 ?_
    show Steps p.tables e below (T4.setTop (mkF m 33 #[.val (.int p1), .val (.int p2), .val (.int (1 : Int32)), .val (.int (p2 &&& (65535 : Int32))), .unset, .unset, .unset, .unset] [])) _
    refine XS.iconst X4.here hx rfl (hb hby at_33) ?_
    show Steps p.tables e below (T4.setTop (mkF m 34 #[.val (.int p1), .val (.int p2), .val (.int (1 : Int32)), .val (.int (p2 &&& (65535 : Int32))), .unset, .unset, .unset, .unset] [(.int (1 : Int32))])) _
    refine XS.goto X4.here hx rfl (pc0 := 34) (pc' := 38) rfl (hb hby at_34) (by decide) (by decide) ?_
    show Steps p.tables e below (T4.setTop (mkF m 38 #[.val (.int p1), .val (.int p2), .val (.int (1 : Int32)), .val (.int (p2 &&& (65535 : Int32))), .unset, .unset, .unset, .unset] [(.int (1 : Int32))])) _
    refine XS.istore X4.here hx rfl (hb hby at_38) rfl (l' := #[.val (.int p1), .val (.int p2), .val (.int (1 : Int32)), .val (.int (p2 &&& (65535 : Int32))), .val (.int (1 : Int32)), .unset, .unset, .unset]) rfl ?_
    exact kk_)
  obtain ⟨a6, T6, h6, k6, tb6, kb6, X6, e6, E6, hS6, hk6, hZ, hown, Es6, Fc6, Fv6, Av6, -, -, -, st6⟩ := ldcSV (s := s) (vm0 := s.vm) X4 hx hZ hown (hw _ (List.mem_of_getElem? (i := 10) rfl)) own_wS e4 ((State.WarmedH.refl s).since 0) (Nat.zero_le _) (show Fr s.heap.size _ by rw [hh, ← hn0]; exact N4) (fun b cl q => by rw [hh, ← hZ0]; exact q) (show IB Z s.vm [] by rw [hvm]; exact IB.start) (by simp) hcH hcw (vs := own_cs.map Value.int) (z := Int32.ofNat 16) ⟨by decide +kernel, by decide +kernel⟩ (by decide) (by decide +kernel) (g := (mkF m 40 #[.val (.int p1), .val (.int p2), .val (.int (1 : Int32)), .val (.int (p2 &&& (65535 : Int32))), .val (.int (1 : Int32)), .unset, .unset, .unset] [])) rfl (hb hby at_40) (n := 64) (by decide) (by decide) (by decide) (by decide)
  have S6_0 := S_CS.ext E6
  have S6_1 := S_FM.ext E6
  have z6 : n0 ≤ h6.size := Nat.le_trans Z0 E6.1
  obtain ⟨cq7, kq7, q7a, q7b, q7c⟩ := isOf hZ e6 Es6
  obtain ⟨_, _, ⟨T7, L7, k7, n7⟩, -, X7, ⟨Lc7, hQ7, l7, y7, z7⟩, st7⟩ := X6.virtualBack hx (y := (⟨"java/lang/String", "charAt", "(I)C"⟩ : MethodName)) (z := (⟨"java/lang/String", "charAt", "(I)C"⟩ : MethodName)) hown (mvT hZ (hw _ (List.mem_of_getElem? (i := 18) rfl))) (mvT hZ (hw _ (List.mem_of_getElem? (i := 19) rfl))) (notFace_of_selects (args := #[]) (mvT hZ (hw _ (List.mem_of_getElem? (i := 21) rfl)))) (mvT hZ (hw _ (List.mem_of_getElem? (i := 21) rfl))) (mvT hZ (hw _ (List.mem_of_getElem? (i := 20) rfl))) (by decide) (backOf (W := 0) (rmC l Z a0 hw [] a6 (p2 &&& (15 : Int32)) cs0 fm tb6 kb6 (own_cs.getD ci 0) h6 n0 z6 S6_0 P_CS S6_1 P_FM Es6 Fv6 Fc6 Av6 (own_in hci hcj) (own_val hci hcj) (own_res1 ci hci) (own_res2 ci hci)) hZ (hw _ (List.mem_of_getElem? (i := 22) rfl)) (hw _ (List.mem_of_getElem? (i := 11) rfl)) (by decide) (by decide)) q7a q7c (g := (mkF m 50 #[.val (.int p1), .val (.int p2), .val (.int (1 : Int32)), .val (.int (p2 &&& (65535 : Int32))), .val (.int (1 : Int32)), .val (.ref a6), .unset, .unset] [(.int (p2 &&& (15 : Int32))), (.ref a6)])) rfl (by rw [hml]; rfl) (Steps.refl _) (argsL := [(.int (p2 &&& (15 : Int32)))]) (rest := []) (lenOf own_pd5 rfl) rfl (by show 2 * 0 + _ ≤ _; exact Nat.le_of_eq rfl) (hb hby at_50) (fun _ _ => ⟨rfl, e6, (by decide : 2 + 0 ≤ _), (by decide : 68 + 0 ≤ _)⟩)
  dsimp only [Pt.U, Pt.locs, Pt.cells, Pt.slots] at X7 l7 y7 z7 st7 hQ7
  subst l7 y7 z7
  obtain ⟨rfl, N7q, e7⟩ := hQ7
  have N7 := Fr.app N4 N7q
  obtain ⟨_, _, ⟨T8, L8, k8, n8⟩, -, X8, ⟨Lc8, hQ8, l8, y8, z8⟩, st8⟩ := Jvm.LawKit.callS X7 hx (y := (⟨"com/example/quillsign/quillsign/sigv4/SigV4", "isSignatureDigit", "(I)Z"⟩ : MethodName)) hown (mvT hZ (hw _ (List.mem_of_getElem? (i := 0) rfl))) (mvT hZ (hw _ (List.mem_of_getElem? (i := 1) rfl))) (mvT hZ (hw _ (List.mem_of_getElem? (i := 2) rfl))) (mvT hZ (hw _ (List.mem_of_getElem? (i := 3) rfl))) (by decide) (backOf (W := 0) (rm1 l Z a0 hw [] (own_cs.getD ci 0)  h6 n0 z6 ) hZ (hw _ (List.mem_of_getElem? (i := 3) rfl)) (hw _ (List.mem_of_getElem? (i := 2) rfl)) (by decide) (by decide)) (g := (mkF m 57 #[.val (.int p1), .val (.int p2), .val (.int (1 : Int32)), .val (.int (p2 &&& (65535 : Int32))), .val (.int (1 : Int32)), .val (.ref a6), .val (.int (own_cs.getD ci 0)), .unset] [(.int (own_cs.getD ci 0))])) rfl (by rw [hml]; rfl) (argsL := [(.int (own_cs.getD ci 0))]) (rest := []) (lenOf own_pd4 rfl) rfl (by show 2 * 0 + _ ≤ _; exact Nat.le_of_eq rfl) (hb hby at_57) (fun _ _ => ⟨rfl, e7, (by decide : 2 + 0 ≤ _), (by decide : 68 + 0 ≤ _)⟩)
  dsimp only [Pt.U, Pt.locs, Pt.cells, Pt.slots] at X8 l8 y8 z8 st8 hQ8
  subst l8 y8 z8
  obtain ⟨rfl, N8q, e8⟩ := hQ8
  have N8 := Fr.app N7 N8q
  have pre9 : ∀ tt_, Steps p.tables e below (T8.setTop (mkF m 81 #[.val (.int p1), .val (.int p2), .val (.int (1 : Int32)), .val (.int (p2 &&& (65535 : Int32))), .val (.int (1 : Int32)), .val (.ref a6), .val (.int (own_cs.getD ci 0)), .val (.int (own_dig (own_cs.getD ci 0)))] [(.int (1 : Int32))])) tt_ → Steps p.tables e below (s₁.setTop (entryFrame m #[(.int p1), (.int p2)] maxLocals)) tt_ := fun tt_ kk_ => pre5 tt_ (by
    show Steps p.tables e below (T4.setTop (mkF m 40 #[.val (.int p1), .val (.int p2), .val (.int (1 : Int32)), .val (.int (p2 &&& (65535 : Int32))), .val (.int (1 : Int32)), .unset, .unset, .unset] [])) _
    refine st6 _ ?_
    show Steps p.tables e below (T6.setTop (mkF m 42 #[.val (.int p1), .val (.int p2), .val (.int (1 : Int32)), .val (.int (p2 &&& (65535 : Int32))), .val (.int (1 : Int32)), .unset, .unset, .unset] [(.ref a6)])) _
    refine XS.astore X6.here hx rfl (hb hby at_42) rfl rfl (l' := #[.val (.int p1), .val (.int p2), .val (.int (1 : Int32)), .val (.int (p2 &&& (65535 : Int32))), .val (.int (1 : Int32)), .val (.ref a6), .unset, .unset]) rfl ?_
    show Steps p.tables e below (T6.setTop (mkF m 44 #[.val (.int p1), .val (.int p2), .val (.int (1 : Int32)), .val (.int (p2 &&& (65535 : Int32))), .val (.int (1 : Int32)), .val (.ref a6), .unset, .unset] [])) _
    refine XS.aload X6.here hx rfl (hb hby at_44) rfl rfl ?_
    show Steps p.tables e below (T6.setTop (mkF m 46 #[.val (.int p1), .val (.int p2), .val (.int (1 : Int32)), .val (.int (p2 &&& (65535 : Int32))), .val (.int (1 : Int32)), .val (.ref a6), .unset, .unset] [(.ref a6)])) _
    refine XS.iloadN X6.here hx rfl (hb hby at_46) rfl ?_
    show Steps p.tables e below (T6.setTop (mkF m 47 #[.val (.int p1), .val (.int p2), .val (.int (1 : Int32)), .val (.int (p2 &&& (65535 : Int32))), .val (.int (1 : Int32)), .val (.ref a6), .unset, .unset] [(.int p2), (.ref a6)])) _
    refine XS.bipush X6.here hx rfl (hb hby at_47) ?_
    show Steps p.tables e below (T6.setTop (mkF m 49 #[.val (.int p1), .val (.int p2), .val (.int (1 : Int32)), .val (.int (p2 &&& (65535 : Int32))), .val (.int (1 : Int32)), .val (.ref a6), .unset, .unset] [(.int (15 : Int32)), (.int p2), (.ref a6)])) _
    refine XS.iand X6.here hx rfl (hb hby at_49) rfl ?_
    show Steps p.tables e below (T6.setTop (mkF m 50 #[.val (.int p1), .val (.int p2), .val (.int (1 : Int32)), .val (.int (p2 &&& (65535 : Int32))), .val (.int (1 : Int32)), .val (.ref a6), .unset, .unset] [(.int (p2 &&& (15 : Int32))), (.ref a6)])) _
    refine st7.trans ?_
    show Steps p.tables e below (T7.setTop (mkF m 53 #[.val (.int p1), .val (.int p2), .val (.int (1 : Int32)), .val (.int (p2 &&& (65535 : Int32))), .val (.int (1 : Int32)), .val (.ref a6), .unset, .unset] [(.int (own_cs.getD ci 0))])) _
    refine XS.istore X7.here hx rfl (hb hby at_53) rfl (l' := #[.val (.int p1), .val (.int p2), .val (.int (1 : Int32)), .val (.int (p2 &&& (65535 : Int32))), .val (.int (1 : Int32)), .val (.ref a6), .val (.int (own_cs.getD ci 0)), .unset]) rfl ?_
    show Steps p.tables e below (T7.setTop (mkF m 55 #[.val (.int p1), .val (.int p2), .val (.int (1 : Int32)), .val (.int (p2 &&& (65535 : Int32))), .val (.int (1 : Int32)), .val (.ref a6), .val (.int (own_cs.getD ci 0)), .unset] [])) _
    refine XS.iload X7.here hx rfl (hb hby at_55) rfl ?_
    show Steps p.tables e below (T7.setTop (mkF m 57 #[.val (.int p1), .val (.int p2), .val (.int (1 : Int32)), .val (.int (p2 &&& (65535 : Int32))), .val (.int (1 : Int32)), .val (.ref a6), .val (.int (own_cs.getD ci 0)), .unset] [(.int (own_cs.getD ci 0))])) _
    refine st8 _ ?_
    show Steps p.tables e below (T8.setTop (mkF m 60 #[.val (.int p1), .val (.int p2), .val (.int (1 : Int32)), .val (.int (p2 &&& (65535 : Int32))), .val (.int (1 : Int32)), .val (.ref a6), .val (.int (own_cs.getD ci 0)), .unset] [(.int (own_dig (own_cs.getD ci 0)))])) _
    refine XS.istore X8.here hx rfl (hb hby at_60) rfl (l' := #[.val (.int p1), .val (.int p2), .val (.int (1 : Int32)), .val (.int (p2 &&& (65535 : Int32))), .val (.int (1 : Int32)), .val (.ref a6), .val (.int (own_cs.getD ci 0)), .val (.int (own_dig (own_cs.getD ci 0)))]) rfl ?_
    show Steps p.tables e below (T8.setTop (mkF m 62 #[.val (.int p1), .val (.int p2), .val (.int (1 : Int32)), .val (.int (p2 &&& (65535 : Int32))), .val (.int (1 : Int32)), .val (.ref a6), .val (.int (own_cs.getD ci 0)), .val (.int (own_dig (own_cs.getD ci 0)))] [])) _
    refine XS.iloadN X8.here hx rfl (hb hby at_62) rfl ?_
    show Steps p.tables e below (T8.setTop (mkF m 63 #[.val (.int p1), .val (.int p2), .val (.int (1 : Int32)), .val (.int (p2 &&& (65535 : Int32))), .val (.int (1 : Int32)), .val (.ref a6), .val (.int (own_cs.getD ci 0)), .val (.int (own_dig (own_cs.getD ci 0)))] [(.int (1 : Int32))])) _
    refine XS.ifNo X8.here hx rfl (hb hby at_63) rfl ((if0 _ _).trans (feq ((by decide) : ¬ ((1 : Int32) = (0 : Int32)))).1) ?_
    show Steps p.tables e below (T8.setTop (mkF m 66 #[.val (.int p1), .val (.int p2), .val (.int (1 : Int32)), .val (.int (p2 &&& (65535 : Int32))), .val (.int (1 : Int32)), .val (.ref a6), .val (.int (own_cs.getD ci 0)), .val (.int (own_dig (own_cs.getD ci 0)))] [])) _
    refine XS.iload X8.here hx rfl (hb hby at_66) rfl ?_
    show Steps p.tables e below (T8.setTop (mkF m 68 #[.val (.int p1), .val (.int p2), .val (.int (1 : Int32)), .val (.int (p2 &&& (65535 : Int32))), .val (.int (1 : Int32)), .val (.ref a6), .val (.int (own_cs.getD ci 0)), .val (.int (own_dig (own_cs.getD ci 0)))] [(.int (1 : Int32))])) _
    refine XS.ifNo X8.here hx rfl (hb hby at_68) rfl ((if0 _ _).trans (feq ((by decide) : ¬ ((1 : Int32) = (0 : Int32)))).1) ?_
    show Steps p.tables e below (T8.setTop (mkF m 71 #[.val (.int p1), .val (.int p2), .val (.int (1 : Int32)), .val (.int (p2 &&& (65535 : Int32))), .val (.int (1 : Int32)), .val (.ref a6), .val (.int (own_cs.getD ci 0)), .val (.int (own_dig (own_cs.getD ci 0)))] [])) _
    refine XS.iload X8.here hx rfl (hb hby at_71) rfl ?_
    show Steps p.tables e below (T8.setTop (mkF m 73 #[.val (.int p1), .val (.int p2), .val (.int (1 : Int32)), .val (.int (p2 &&& (65535 : Int32))), .val (.int (1 : Int32)), .val (.ref a6), .val (.int (own_cs.getD ci 0)), .val (.int (own_dig (own_cs.getD ci 0)))] [(.int (own_dig (own_cs.getD ci 0)))])) _
    refine XS.ifNo X8.here hx rfl (hb hby at_73) rfl ((if0 _ _).trans (feq ((by rw [own_each ci hci]; decide) : ¬ ((own_dig (own_cs.getD ci 0)) = (0 : Int32)))).1) ?_
    show Steps p.tables e below (T8.setTop (mkF m 76 #[.val (.int p1), .val (.int p2), .val (.int (1 : Int32)), .val (.int (p2 &&& (65535 : Int32))), .val (.int (1 : Int32)), .val (.ref a6), .val (.int (own_cs.getD ci 0)), .val (.int (own_dig (own_cs.getD ci 0)))] [])) _
    refine XS.iconst X8.here hx rfl (hb hby at_76) ?_
    show Steps p.tables e below (T8.setTop (mkF m 77 #[.val (.int p1), .val (.int p2), .val (.int (1 : Int32)), .val (.int (p2 &&& (65535 : Int32))), .val (.int (1 : Int32)), .val (.ref a6), .val (.int (own_cs.getD ci 0)), .val (.int (own_dig (own_cs.getD ci 0)))] [(.int (1 : Int32))])) _
    refine XS.goto X8.here hx rfl (pc0 := 77) (pc' := 81) rfl (hb hby at_77) (by decide) (by decide) ?_
    exact kk_)
  obtain ⟨fs, hr, hrun, hended, hEW⟩ := Jvm.Stand.leaveW (s := s) (vm₁ := T6.vm) X8 hS6 (show _ ≤ T8.heap.size by rw [e8]; exact hk6) (v := some (.int (nar .boolean (1 : Int32)))) (fun h => by rw [Bd.returns] at h; cases h)
  refine ⟨_, _, pre9 _ ?_, hrun, hended, _, _, rfl, ?_, hEW.1, hEW.2.1, hEW.2.2.1, hEW.2.2.2.mono (by decide) (by decide)⟩
  · show Steps p.tables e below (T8.setTop (mkF m 81 #[.val (.int p1), .val (.int p2), .val (.int (1 : Int32)), .val (.int (p2 &&& (65535 : Int32))), .val (.int (1 : Int32)), .val (.ref a6), .val (.int (own_cs.getD ci 0)), .val (.int (own_dig (own_cs.getD ci 0)))] [(.int (1 : Int32))])) _
    exact retN X8 hx (t := .boolean) Bd.returns (by simp) (hb hby at_81) hr
  · show QL n0 _ T8.heap _
    rw [e8]
    exact ⟨rfl, N8⟩
set_option maxRecDepth 65536 in
set_option maxHeartbeats 40000000 in
theorem comes_1 {Post : Tables → Env → Array Value → State → Outcome → State → Prop} (hpost : ∀ tb e args s v u, (limb_1_1.after args s (.returned v) u = true ∧ limb_1_2.after args s (.returned v) u = true ∧ True) → ReturnedEndW s (.returned v) u (Jvm.fieldLocs frame_1_writes args s ++ Jvm.arrayLocs frame_1_arrays args s ++ Jvm.staticLocs frame_1_statics s) 8 1088 → Post tb e args s (.returned v) u) :
    ArmFor flags0 classFile x code maxLocals ret World_1 tables_1 room_1 Calls_1 rest_1 Pre_1 Post := by
  intro l hfl _ _ p e ha hc hk s m args below hf hA hF happ hP
  obtain ⟨hcalls, hrest, hpre⟩ := hP
  obtain ⟨-, -, -, hnamed, -, -, -, hat⟩ := (Spec.applies_iff hf).mp happ
  obtain ⟨hg, hn⟩ := and_e (Cond.before_iff.mp (show (Jvm.Cond.and given_1 narrow_1).before args s = true from hpre))
  obtain ⟨gc, gr0⟩ := and_e hg
  obtain ⟨ga0, gr1⟩ := and_e gr0
  have ga1 := gr1
  obtain ⟨w0, w1, rfl⟩ : ∃ w0 w1 : Value, args = #[w0, w1] := by
    have hs : args.size = 2 := by simpa [Cond.value, given_1] using gc
    obtain ⟨L⟩ := args
    match L, hs with
    | [w0, w1], _ => exact ⟨w0, w1, rfl⟩
  have hw := fun d (hd : d ∈ tables_1) => atoms_spec (ws := Jvm.Cond.code x code maxLocals ret :: tables_1) hat d (List.mem_cons_of_mem _ hd)
  have hfit : Fit s := fun {y c} hc i hi => by
    obtain ⟨ha, rfl⟩ := Array.getElem?_eq_some_iff.mp hc
    have q := List.all_eq_true.mp ((Array.all_eq_true_iff_forall_mem.mp hF) _ (Array.getElem_mem ha)) i (List.mem_range.mpr hi)
    simpa [Array.getElem?_eq_getElem hi] using q
  obtain ⟨i0, ei0⟩ := is_v ga0
  obtain rfl : w0 = (.int i0) := Option.some.inj ei0
  obtain ⟨i1, ei1⟩ := is_v ga1
  obtain rfl : w1 = (.int i1) := Option.some.inj ei1
  obtain ⟨hsets, hown0⟩ := atoms_of _ (rest_1_c_eq ▸ (show rest_1_c.before _ s = true from hrest))
  obtain ⟨cs0, ecs⟩ := is_v (Cond.before_iff.mp (hsets _ (List.mem_of_getElem? (i := 1) rfl)))
  have S_CS : Sta s s.heap "java/lang/String" "COMPACT_STRINGS" "Z" (.int cs0) := Sta.start ecs (Or.inl (hsets _ (List.mem_of_getElem? (i := 0) rfl)))
  have P_CS : ¬ cs0 = 0 := gotF (Cond.eq_ints ecs (Term.int_eval 0)) (by simpa using not_v (Cond.before_iff.mp (hsets _ (List.mem_of_getElem? (i := 2) rfl))))
  have P8 := Cond.before_iff.mp (hsets _ (List.mem_of_getElem? (i := 8) rfl))
  obtain ⟨fm, efm, P_FM⟩ := isR_v P8
  have S_FM := Sta.start efm (Or.inl (hsets _ (List.mem_of_getElem? (i := 7) rfl)))
  have hcw : Jvm.Lit.compactW.before #[Value.int i0, Value.int i1] s = true := hsets _ (List.mem_of_getElem? (i := 2) rfl)
  have hcH : Jvm.Lit.constHeld s "com/example/quillsign/quillsign/sigv4/SigV4IsSignatureDigitPinLaw" 23 := hcalls.1 _ (List.mem_cons_self ..)
  obtain ⟨n, o, h1, h2, h3, _, L, rfl, ⟨rfl, N⟩, hq⟩ := rm0 l s _ hw tables_1 i0 i1 cs0 fm s.heap s.heap.size (Nat.le_refl _) S_CS P_CS S_FM P_FM hcw hcH rfl rfl p e ha hc hk s m _ below hf ((Spec.applies_iff_loose hf).mp happ).1 ⟨rfl, State.Warmed39.refl s, rfl, rfl⟩ trivial
  refine ⟨n, _, h1, h2, h3, hpost _ _ _ _ _ _ ⟨Cond.after_iff.mpr rfl, Cond.after_iff.mpr (eq_i res_at (Term.int_eval (1)) rfl), trivial⟩ ⟨hq.1, hq.2.1, hq.2.2.1, (hq.2.2.2.sift fun y hy => Or.inr (N y hy)).mono (by decide) (by decide)⟩⟩
theorem main_1_1 : Claimed_1_1 := comes_1 fun _ _ _ _ _ _ h hF => ⟨h.1, hF⟩
theorem main_1_2 : Claimed_1_2 := comes_1 fun _ _ _ _ _ _ h hF => ⟨h.2.1, hF⟩
end Jvm.Pilot.@@N@@
namespace Jvm.Pilot.@@N@@
open Jvm Jvm.ClassFile Sem Op Lib Jvm.Free Jvm.Stand Jvm.Pilot.@@N@@.Jvm.D
/-! MADE BY PROGRAM (witnessworld.py) out of the Statement's table words and the real class files: 17 classes; the members and pool entries that the words name. The judged class is class 1, her method 2. -/
namespace start1
open Jvm.ClassFile
def u (s : String) : CpInfo := .utf8 (stringToUtf16 s)
/-- a pool by its gaps: so many unusable entries, then the entry; so many at the end -/
def gap : Nat → List CpInfo → List CpInfo
  | 0, r => r
  | n + 1, r => .unusable :: gap n r
def poolList (es : List (Nat × CpInfo)) (last : Nat) : List CpInfo := es.foldr (fun e r => gap e.1 (e.2 :: r)) (gap last [])
def pool (es : List (Nat × CpInfo)) (last : Nat) : Array CpInfo := ⟨poolList es last⟩
def fileOf (pool : Array CpInfo) (this : Nat) (attrs : Array Attribute := #[]) (ms : Array MethodInfo := #[]) (fl : Nat := 33) (sup : Nat := 0) (ifs : Array Nat := #[]) (fds : Array FieldInfo := #[]) : ClassFile where
  minorVersion := 0
  majorVersion := 65
  constantPool := pool
  accessFlags := fl
  thisClass := this
  superClass := sup
  interfaces := ifs
  fields := fds
  methods := ms
  attributes := attrs
def plain (name : String) (sup : Option ClassId) : Class where
  name := name
  kind := .ordinary
  loader := none
  accessFlags := 33
  super := sup
  interfaces := #[]
  cf := none
  fields := #[]
  methods := #[]
  instanceTypes := #[]
  staticTypes := #[]
  resolved := #[]
  callSites := []
  init := .initialized
  statics := none
  mirror := none

def pool0 : Array CpInfo := pool [(5, u "<init>"), (0, u "()V"), (1, .class_ 10), (1, u "java/lang/Object")] 113

def k0m0 : Method := { name := "<init>", desc := "()V", sig := { parameters := [], returnType := none }, accessFlags := 1, code := none }
/-- java/lang/Object -/
def k0 : Class := { plain "java/lang/Object" none with
  accessFlags := 33
  interfaces := #[]
  cf := some (fileOf pool0 8 #[] #[{ accessFlags := 1, nameIndex := 5, descriptorIndex := 6, attributes := #[] }] 33 0 #[] #[])
  fields := #[]
  methods := #[k0m0]
  instanceTypes := #[]
  staticTypes := #[]
  resolved := Array.replicate 124 none
  statics := none }

def pool1 : Array CpInfo := pool [(2, .class_ 4), (1, u "java/lang/Object"), (0, u "<init>"), (0, u "()V"), (0, .class_ 8), (0, u "com/example/quillsign/quillsign/sigv4/SigV4IsSignatureDigitPinLaw"), (0, .long 287948901175001088), (1, .long 541165879296), (1, .methodref 14 15), (0, .class_ 16), (0, .nameAndType 17 18), (0, u "com/example/quillsign/quillsign/sigv4/SigV4"), (0, u "isSignatureDigit"), (0, u "(I)Z"), (0, .methodref 7 20), (0, .nameAndType 21 18), (0, u "inTable"), (0, .integer 65535), (0, .string 24), (0, u "0123456789abcdef"), (0, .methodref 26 27), (0, .class_ 28), (0, .nameAndType 29 30), (0, u "java/lang/String"), (0, u "charAt"), (0, u "(I)C"), (0, u "LOW"), (0, u "J"), (1, u "HIGH"), (3, u "law"), (0, u "(II)Z")] 2

def k1m0 : Method := { name := "<init>", desc := "()V", sig := { parameters := [], returnType := none }, accessFlags := 2, code := none }
def k1c1 : Code := { maxStack := 4, maxLocals := 1, code := method_2_code, exceptionTable := #[], attributes := #[] }
def k1m1 : Method := { name := "inTable", desc := "(I)Z", sig := { parameters := [.int], returnType := some .boolean }, accessFlags := 10, code := some k1c1 }
def k1c2 : Code := { maxStack := 3, maxLocals := 8, code := code, exceptionTable := #[], attributes := #[] }
def k1m2 : Method := { name := "law", desc := "(II)Z", sig := { parameters := [.int, .int], returnType := some .boolean }, accessFlags := 9, code := some k1c2 }
/-- com/example/quillsign/quillsign/sigv4/SigV4IsSignatureDigitPinLaw -/
def k1 : Class := { plain "com/example/quillsign/quillsign/sigv4/SigV4IsSignatureDigitPinLaw" (some 0) with
  accessFlags := 49
  interfaces := #[]
  cf := some (fileOf pool1 7 #[] #[{ accessFlags := 2, nameIndex := 5, descriptorIndex := 6, attributes := #[] }, { accessFlags := 10, nameIndex := 21, descriptorIndex := 18, attributes := #[] }, { accessFlags := 9, nameIndex := 38, descriptorIndex := 39, attributes := #[] }] 49 2 #[] #[{ accessFlags := 26, nameIndex := 31, descriptorIndex := 32, attributes := #[] }, { accessFlags := 26, nameIndex := 34, descriptorIndex := 32, attributes := #[] }])
  fields := #[{ name := "LOW", type := .long, accessFlags := 26, slot := 0, constantValue := 0 }, { name := "HIGH", type := .long, accessFlags := 26, slot := 1, constantValue := 0 }]
  methods := #[k1m0, k1m1, k1m2]
  instanceTypes := #[]
  staticTypes := #[.long, .long]
  resolved := Array.replicate 42 none
  statics := none }

def pool2 : Array CpInfo := pool [(2, .class_ 4), (1, u "java/lang/Object"), (0, u "<init>"), (0, u "()V"), (0, .class_ 8), (0, u "com/example/quillsign/quillsign/sigv4/SigV4"), (56, u "HEX"), (0, u "Ljava/util/HexFormat;"), (45, u "MAX_EXPIRY"), (0, u "Ljava/time/Duration;"), (4, u "ALGORITHM"), (0, u "Ljava/lang/String;"), (1, u "AUTHORIZATION"), (2, u "HOST"), (2, u "DATE"), (2, u "SECURITY_TOKEN"), (0, u "ALGORITHM_PARAMETER"), (2, u "CREDENTIAL"), (2, u "EXPIRES"), (2, u "SIGNED_HEADERS"), (2, u "SIGNATURE"), (2, u "CHUNK_ALGORITHM"), (2, u "DECODED_CONTENT_LENGTH"), (2, u "SIGNATURE_LENGTH"), (0, u "I"), (1, u "S3"), (0, u "AMZ_HEADER_PREFIX"), (0, u "CREDENTIAL_DELIMITERS"), (4, u "isSignatureDigit"), (0, u "(I)Z")] 17

def k2m0 : Method := { name := "<init>", desc := "()V", sig := { parameters := [], returnType := none }, accessFlags := 2, code := none }
def k2c1 : Code := { maxStack := 2, maxLocals := 1, code := prog_63_method_3_code, exceptionTable := #[], attributes := #[] }
def k2m1 : Method := { name := "isSignatureDigit", desc := "(I)Z", sig := { parameters := [.int], returnType := some .boolean }, accessFlags := 8, code := some k2c1 }
/-- com/example/quillsign/quillsign/sigv4/SigV4 -/
def k2 : Class := { plain "com/example/quillsign/quillsign/sigv4/SigV4" (some 0) with
  accessFlags := 48
  interfaces := #[]
  cf := some (fileOf pool2 7 #[] #[{ accessFlags := 2, nameIndex := 5, descriptorIndex := 6, attributes := #[] }, { accessFlags := 8, nameIndex := 162, descriptorIndex := 163, attributes := #[] }] 48 2 #[] #[{ accessFlags := 24, nameIndex := 118, descriptorIndex := 119, attributes := #[] }, { accessFlags := 24, nameIndex := 121, descriptorIndex := 119, attributes := #[] }, { accessFlags := 24, nameIndex := 124, descriptorIndex := 119, attributes := #[] }, { accessFlags := 24, nameIndex := 127, descriptorIndex := 119, attributes := #[] }, { accessFlags := 24, nameIndex := 130, descriptorIndex := 119, attributes := #[] }, { accessFlags := 24, nameIndex := 131, descriptorIndex := 119, attributes := #[] }, { accessFlags := 24, nameIndex := 134, descriptorIndex := 119, attributes := #[] }, { accessFlags := 24, nameIndex := 137, descriptorIndex := 119, attributes := #[] }, { accessFlags := 24, nameIndex := 140, descriptorIndex := 119, attributes := #[] }, { accessFlags := 24, nameIndex := 143, descriptorIndex := 119, attributes := #[] }, { accessFlags := 24, nameIndex := 146, descriptorIndex := 119, attributes := #[] }, { accessFlags := 24, nameIndex := 149, descriptorIndex := 119, attributes := #[] }, { accessFlags := 24, nameIndex := 152, descriptorIndex := 153, attributes := #[] }, { accessFlags := 24, nameIndex := 112, descriptorIndex := 113, attributes := #[] }, { accessFlags := 24, nameIndex := 155, descriptorIndex := 119, attributes := #[] }, { accessFlags := 26, nameIndex := 65, descriptorIndex := 66, attributes := #[] }, { accessFlags := 26, nameIndex := 156, descriptorIndex := 119, attributes := #[] }, { accessFlags := 26, nameIndex := 157, descriptorIndex := 119, attributes := #[] }])
  fields := #[{ name := "ALGORITHM", type := (.object "java/lang/String"), accessFlags := 24, slot := 0, constantValue := 0 }, { name := "AUTHORIZATION", type := (.object "java/lang/String"), accessFlags := 24, slot := 1, constantValue := 0 }, { name := "HOST", type := (.object "java/lang/String"), accessFlags := 24, slot := 2, constantValue := 0 }, { name := "DATE", type := (.object "java/lang/String"), accessFlags := 24, slot := 3, constantValue := 0 }, { name := "SECURITY_TOKEN", type := (.object "java/lang/String"), accessFlags := 24, slot := 4, constantValue := 0 }, { name := "ALGORITHM_PARAMETER", type := (.object "java/lang/String"), accessFlags := 24, slot := 5, constantValue := 0 }, { name := "CREDENTIAL", type := (.object "java/lang/String"), accessFlags := 24, slot := 6, constantValue := 0 }, { name := "EXPIRES", type := (.object "java/lang/String"), accessFlags := 24, slot := 7, constantValue := 0 }, { name := "SIGNED_HEADERS", type := (.object "java/lang/String"), accessFlags := 24, slot := 8, constantValue := 0 }, { name := "SIGNATURE", type := (.object "java/lang/String"), accessFlags := 24, slot := 9, constantValue := 0 }, { name := "CHUNK_ALGORITHM", type := (.object "java/lang/String"), accessFlags := 24, slot := 10, constantValue := 0 }, { name := "DECODED_CONTENT_LENGTH", type := (.object "java/lang/String"), accessFlags := 24, slot := 11, constantValue := 0 }, { name := "SIGNATURE_LENGTH", type := .int, accessFlags := 24, slot := 12, constantValue := 0 }, { name := "MAX_EXPIRY", type := (.object "java/time/Duration"), accessFlags := 24, slot := 13, constantValue := 0 }, { name := "S3", type := (.object "java/lang/String"), accessFlags := 24, slot := 14, constantValue := 0 }, { name := "HEX", type := (.object "java/util/HexFormat"), accessFlags := 26, slot := 15, constantValue := 0 }, { name := "AMZ_HEADER_PREFIX", type := (.object "java/lang/String"), accessFlags := 26, slot := 16, constantValue := 0 }, { name := "CREDENTIAL_DELIMITERS", type := (.object "java/lang/String"), accessFlags := 26, slot := 17, constantValue := 0 }]
  methods := #[k2m0, k2m1]
  instanceTypes := #[]
  staticTypes := #[(.object "java/lang/String"), (.object "java/lang/String"), (.object "java/lang/String"), (.object "java/lang/String"), (.object "java/lang/String"), (.object "java/lang/String"), (.object "java/lang/String"), (.object "java/lang/String"), (.object "java/lang/String"), (.object "java/lang/String"), (.object "java/lang/String"), (.object "java/lang/String"), .int, (.object "java/time/Duration"), (.object "java/lang/String"), (.object "java/util/HexFormat"), (.object "java/lang/String"), (.object "java/lang/String")]
  resolved := Array.replicate 181 none
  statics := none }

def pool3 : Array CpInfo := pool [(1, .class_ 2), (0, u "java/io/Serializable"), (0, .class_ 4), (0, u "java/lang/Object")] 2

/-- java/io/Serializable -/
def k3 : Class := { plain "java/io/Serializable" (some 0) with
  accessFlags := 1537
  interfaces := #[]
  cf := some (fileOf pool3 1 #[] #[] 1537 3 #[] #[])
  fields := #[]
  methods := #[]
  instanceTypes := #[]
  staticTypes := #[]
  resolved := Array.replicate 7 none
  statics := none }

def pool4 : Array CpInfo := pool [(1, .class_ 2), (0, u "java/lang/Comparable"), (0, .class_ 4), (0, u "java/lang/Object")] 7

/-- java/lang/Comparable -/
def k4 : Class := { plain "java/lang/Comparable" (some 0) with
  accessFlags := 1537
  interfaces := #[]
  cf := some (fileOf pool4 1 #[] #[] 1537 3 #[] #[])
  fields := #[]
  methods := #[]
  instanceTypes := #[]
  staticTypes := #[]
  resolved := Array.replicate 12 none
  statics := none }

def pool5 : Array CpInfo := pool [(2, .class_ 4), (1, u "java/lang/CharSequence"), (42, .class_ 48), (0, u "java/lang/CharSequence$1CodePointIterator"), (10, .class_ 60), (0, u "java/lang/CharSequence$1CharIterator"), (5, .class_ 67), (0, u "java/lang/Object")] 63

/-- java/lang/CharSequence -/
def k5 : Class := { plain "java/lang/CharSequence" (some 0) with
  accessFlags := 1537
  interfaces := #[]
  cf := some (fileOf pool5 2 #[.nestMembers #[47, 59]] #[] 1537 66 #[] #[])
  fields := #[]
  methods := #[]
  instanceTypes := #[]
  staticTypes := #[]
  resolved := Array.replicate 131 none
  statics := none }

def pool6 : Array CpInfo := pool [(1, .class_ 2), (0, u "java/lang/constant/Constable"), (0, .class_ 4), (0, u "java/lang/Object")] 6

/-- java/lang/constant/Constable -/
def k6 : Class := { plain "java/lang/constant/Constable" (some 0) with
  accessFlags := 1537
  interfaces := #[]
  cf := some (fileOf pool6 1 #[] #[] 1537 3 #[] #[])
  fields := #[]
  methods := #[]
  instanceTypes := #[]
  staticTypes := #[]
  resolved := Array.replicate 11 none
  statics := none }

def pool7 : Array CpInfo := pool [(1, .class_ 2), (0, u "java/lang/constant/ConstantDesc"), (0, .class_ 4), (0, u "java/lang/Object")] 32

/-- java/lang/constant/ConstantDesc -/
def k7 : Class := { plain "java/lang/constant/ConstantDesc" (some 0) with
  accessFlags := 1537
  interfaces := #[]
  cf := some (fileOf pool7 1 #[] #[] 1537 3 #[] #[])
  fields := #[]
  methods := #[]
  instanceTypes := #[]
  staticTypes := #[]
  resolved := Array.replicate 37 none
  statics := none }

def pool8 : Array CpInfo := pool [(2, .class_ 4), (1, u "java/lang/Object"), (0, u "<init>"), (0, u "()V"), (2, .fieldref 10 11), (0, .class_ 12), (0, .nameAndType 13 14), (0, u "java/lang/String"), (0, u "value"), (0, u "[B"), (0, .fieldref 10 16), (0, .nameAndType 17 18), (0, u "coder"), (0, u "B"), (2, u "hash"), (0, u "I"), (2, u "hashIsZero"), (0, u "Z"), (11, .fieldref 10 39), (0, .nameAndType 40 26), (0, u "COMPACT_STRINGS"), (66, .class_ 109), (1, u "java/lang/StringLatin1"), (32, u "()Z"), (220, u "([BI)C"), (27, u "(II)V"), (35, u "(I)C"), (64, .methodref 10 493), (0, .nameAndType 494 142), (0, u "isLatin1"), (0, .methodref 107 496), (0, .nameAndType 497 363), (0, u "charAt"), (3, u "checkIndex"), (73, .class_ 576), (0, u "java/lang/CharSequence"), (22, u "CASE_INSENSITIVE_ORDER"), (0, u "Ljava/util/Comparator;"), (452, .fieldref 1054 1055), (0, .class_ 1056), (0, .nameAndType 1057 1058), (0, u "jdk/internal/util/Preconditions"), (0, u "SIOOBE_FORMATTER"), (0, u "Ljava/util/function/BiFunction;"), (0, .methodref 1054 1060), (0, .nameAndType 501 1061), (0, u "(IILjava/util/function/BiFunction;)I"), (39, u "serialPersistentFields"), (0, u "[Ljava/io/ObjectStreamField;"), (0, .class_ 1104), (0, u "java/lang/String$CaseInsensitiveComparator"), (1, .class_ 1107), (0, u "java/io/Serializable"), (0, .class_ 1109), (0, u "java/lang/Comparable"), (0, .class_ 1111), (0, u "java/lang/constant/Constable"), (0, .class_ 1113), (0, u "java/lang/constant/ConstantDesc"), (2, u "serialVersionUID"), (0, u "J"), (3, u "REPL"), (0, u "C"), (2, u "LATIN1"), (1, u "UTF16")] 323

def k8m0 : Method := { name := "<init>", desc := "()V", sig := { parameters := [], returnType := none }, accessFlags := 1, code := none }
def k8c1 : Code := { maxStack := 2, maxLocals := 2, code := jdk_42_method_56_code, exceptionTable := #[], attributes := #[] }
def k8m1 : Method := { name := "charAt", desc := "(I)C", sig := { parameters := [.int], returnType := some .char }, accessFlags := 1, code := some k8c1 }
def k8c2 : Code := { maxStack := 1, maxLocals := 1, code := jdk_42_method_154_code, exceptionTable := #[], attributes := #[] }
def k8m2 : Method := { name := "isLatin1", desc := "()Z", sig := { parameters := [], returnType := some .boolean }, accessFlags := 0, code := some k8c2 }
def k8c3 : Code := { maxStack := 3, maxLocals := 2, code := jdk_42_method_155_code, exceptionTable := #[], attributes := #[] }
def k8m3 : Method := { name := "checkIndex", desc := "(II)V", sig := { parameters := [.int, .int], returnType := none }, accessFlags := 8, code := some k8c3 }
/-- java/lang/String -/
def k8 : Class := { plain "java/lang/String" (some 0) with
  accessFlags := 49
  interfaces := #[3, 4, 5, 6, 7]
  cf := some (fileOf pool8 10 #[.nestMembers #[1103]] #[{ accessFlags := 1, nameIndex := 5, descriptorIndex := 6, attributes := #[] }, { accessFlags := 1, nameIndex := 497, descriptorIndex := 427, attributes := #[] }, { accessFlags := 0, nameIndex := 494, descriptorIndex := 142, attributes := #[] }, { accessFlags := 8, nameIndex := 501, descriptorIndex := 391, attributes := #[] }] 49 2 #[1106, 1108, 575, 1110, 1112] #[{ accessFlags := 18, nameIndex := 13, descriptorIndex := 14, attributes := #[] }, { accessFlags := 18, nameIndex := 17, descriptorIndex := 18, attributes := #[] }, { accessFlags := 2, nameIndex := 21, descriptorIndex := 22, attributes := #[] }, { accessFlags := 2, nameIndex := 25, descriptorIndex := 26, attributes := #[] }, { accessFlags := 26, nameIndex := 1116, descriptorIndex := 1117, attributes := #[] }, { accessFlags := 24, nameIndex := 40, descriptorIndex := 26, attributes := #[] }, { accessFlags := 26, nameIndex := 1101, descriptorIndex := 1102, attributes := #[] }, { accessFlags := 26, nameIndex := 1121, descriptorIndex := 1122, attributes := #[] }, { accessFlags := 25, nameIndex := 599, descriptorIndex := 600, attributes := #[] }, { accessFlags := 24, nameIndex := 1125, descriptorIndex := 18, attributes := #[] }, { accessFlags := 24, nameIndex := 1127, descriptorIndex := 18, attributes := #[] }])
  fields := #[{ name := "value", type := (.array .byte), accessFlags := 18, slot := 0, constantValue := 0 }, { name := "coder", type := .byte, accessFlags := 18, slot := 1, constantValue := 0 }, { name := "hash", type := .int, accessFlags := 2, slot := 2, constantValue := 0 }, { name := "hashIsZero", type := .boolean, accessFlags := 2, slot := 3, constantValue := 0 }, { name := "serialVersionUID", type := .long, accessFlags := 26, slot := 0, constantValue := 0 }, { name := "COMPACT_STRINGS", type := .boolean, accessFlags := 24, slot := 1, constantValue := 0 }, { name := "serialPersistentFields", type := (.array (.object "java/io/ObjectStreamField")), accessFlags := 26, slot := 2, constantValue := 0 }, { name := "REPL", type := .char, accessFlags := 26, slot := 3, constantValue := 0 }, { name := "CASE_INSENSITIVE_ORDER", type := (.object "java/util/Comparator"), accessFlags := 25, slot := 4, constantValue := 0 }, { name := "LATIN1", type := .byte, accessFlags := 24, slot := 5, constantValue := 0 }, { name := "UTF16", type := .byte, accessFlags := 24, slot := 6, constantValue := 0 }]
  methods := #[k8m0, k8m1, k8m2, k8m3]
  instanceTypes := #[(.array .byte), .byte, .int, .boolean]
  staticTypes := #[.long, .boolean, (.array (.object "java/io/ObjectStreamField")), .char, (.object "java/util/Comparator"), .byte, .byte]
  resolved := Array.replicate 1451 none
  statics := some 0 }

def pool9 : Array CpInfo := pool [(1, .class_ 2), (0, u "java/lang/String"), (1, .class_ 6), (1, u "java/lang/Object"), (0, u "<init>"), (0, u "()V"), (0, .methodref 1 10), (0, .nameAndType 11 12), (0, u "checkIndex"), (0, u "(II)V"), (1, .class_ 16), (1, u "java/lang/StringLatin1"), (36, u "([BI)C"), (67, u "$assertionsDisabled"), (0, u "Z"), (98, .class_ 223), (1, u "java/lang/StringLatin1$LinesSpliterator"), (28, u "charAt"), (137, .class_ 391), (0, u "java/lang/StringLatin1$CharsSpliterator")] 3

def k9m0 : Method := { name := "<init>", desc := "()V", sig := { parameters := [], returnType := none }, accessFlags := 0, code := none }
def k9c1 : Code := { maxStack := 2, maxLocals := 2, code := jdk_43_method_2_code, exceptionTable := #[], attributes := #[] }
def k9m1 : Method := { name := "charAt", desc := "([BI)C", sig := { parameters := [(.array .byte), .int], returnType := some .char }, accessFlags := 9, code := some k9c1 }
/-- java/lang/StringLatin1 -/
def k9 : Class := { plain "java/lang/StringLatin1" (some 0) with
  accessFlags := 48
  interfaces := #[]
  cf := some (fileOf pool9 14 #[.nestMembers #[390, 221]] #[{ accessFlags := 0, nameIndex := 7, descriptorIndex := 8, attributes := #[] }, { accessFlags := 9, nameIndex := 252, descriptorIndex := 53, attributes := #[] }] 48 4 #[] #[{ accessFlags := 4120, nameIndex := 121, descriptorIndex := 122, attributes := #[] }])
  fields := #[{ name := "$assertionsDisabled", type := .boolean, accessFlags := 4120, slot := 0, constantValue := 0 }]
  methods := #[k9m0, k9m1]
  instanceTypes := #[]
  staticTypes := #[.boolean]
  resolved := Array.replicate 395 none
  statics := none }

def pool10 : Array CpInfo := pool [(2, .class_ 4), (1, u "java/lang/Object"), (0, u "<init>"), (0, u "()V"), (17, .class_ 26), (1, u "jdk/internal/util/Preconditions"), (6, u "checkIndex"), (21, .class_ 56), (0, u "jdk/internal/util/Preconditions$4"), (57, .class_ 115), (0, u "jdk/internal/util/Preconditions$1"), (7, u "SIOOBE_FORMATTER"), (0, u "Ljava/util/function/BiFunction;"), (0, .class_ 126), (0, u "jdk/internal/util/Preconditions$2"), (3, u "AIOOBE_FORMATTER"), (0, .class_ 132), (0, u "jdk/internal/util/Preconditions$3"), (3, u "IOOBE_FORMATTER"), (41, u "(IILjava/util/function/BiFunction;)I")] 15

def k10m0 : Method := { name := "<init>", desc := "()V", sig := { parameters := [], returnType := none }, accessFlags := 1, code := none }
def k10c1 : Code := { maxStack := 3, maxLocals := 3, code := jdk_41_method_11_code, exceptionTable := #[], attributes := #[] }
def k10m1 : Method := { name := "checkIndex", desc := "(IILjava/util/function/BiFunction;)I", sig := { parameters := [.int, .int, (.object "java/util/function/BiFunction")], returnType := some .int }, accessFlags := 9, code := some k10c1 }
/-- jdk/internal/util/Preconditions -/
def k10 : Class := { plain "jdk/internal/util/Preconditions" (some 0) with
  accessFlags := 33
  interfaces := #[]
  cf := some (fileOf pool10 24 #[.nestMembers #[55, 131, 125, 114]] #[{ accessFlags := 1, nameIndex := 5, descriptorIndex := 6, attributes := #[] }, { accessFlags := 9, nameIndex := 33, descriptorIndex := 178, attributes := #[] }] 33 2 #[] #[{ accessFlags := 25, nameIndex := 123, descriptorIndex := 124, attributes := #[] }, { accessFlags := 25, nameIndex := 130, descriptorIndex := 124, attributes := #[] }, { accessFlags := 25, nameIndex := 136, descriptorIndex := 124, attributes := #[] }])
  fields := #[{ name := "SIOOBE_FORMATTER", type := (.object "java/util/function/BiFunction"), accessFlags := 25, slot := 0, constantValue := 0 }, { name := "AIOOBE_FORMATTER", type := (.object "java/util/function/BiFunction"), accessFlags := 25, slot := 1, constantValue := 0 }, { name := "IOOBE_FORMATTER", type := (.object "java/util/function/BiFunction"), accessFlags := 25, slot := 2, constantValue := 0 }]
  methods := #[k10m0, k10m1]
  instanceTypes := #[]
  staticTypes := #[(.object "java/util/function/BiFunction"), (.object "java/util/function/BiFunction"), (.object "java/util/function/BiFunction")]
  resolved := Array.replicate 194 none
  statics := some 1 }

def pool11 : Array CpInfo := pool [(9, u "<init>"), (6, .class_ 18), (1, u "java/lang/Object"), (0, u "()V"), (1, .class_ 23), (1, u "jdk/internal/util/ArraysSupport"), (0, u "LOG2_ARRAY_LONG_INDEX_SCALE"), (0, u "I"), (2, u "U"), (0, u "Ljdk/internal/misc/Unsafe;"), (8, u "BIG_ENDIAN"), (0, u "Z"), (8, u "LOG2_BYTE_BIT_SIZE"), (4, u "LOG2_ARRAY_INT_INDEX_SCALE"), (54, u "JLA"), (0, u "Ljdk/internal/access/JavaLangAccess;"), (11, u "LOG2_ARRAY_BOOLEAN_INDEX_SCALE"), (9, u "LOG2_ARRAY_BYTE_INDEX_SCALE"), (5, u "LOG2_ARRAY_CHAR_INDEX_SCALE"), (5, u "LOG2_ARRAY_SHORT_INDEX_SCALE"), (18, u "LOG2_ARRAY_FLOAT_INDEX_SCALE"), (24, u "LOG2_ARRAY_DOUBLE_INDEX_SCALE"), (89, u "T_BOOLEAN"), (2, u "T_CHAR"), (1, u "T_FLOAT"), (1, u "T_DOUBLE"), (1, u "T_BYTE"), (1, u "T_SHORT"), (1, u "T_INT"), (1, u "T_LONG"), (1, u "SOFT_MAX_ARRAY_LENGTH")] 83

def k11m0 : Method := { name := "<init>", desc := "()V", sig := { parameters := [], returnType := none }, accessFlags := 2, code := none }
/-- jdk/internal/util/ArraysSupport -/
def k11 : Class := { plain "jdk/internal/util/ArraysSupport" (some 0) with
  accessFlags := 33
  interfaces := #[]
  cf := some (fileOf pool11 21 #[] #[{ accessFlags := 2, nameIndex := 9, descriptorIndex := 19, attributes := #[] }] 33 16 #[] #[{ accessFlags := 24, nameIndex := 28, descriptorIndex := 29, attributes := #[] }, { accessFlags := 26, nameIndex := 38, descriptorIndex := 39, attributes := #[] }, { accessFlags := 25, nameIndex := 121, descriptorIndex := 25, attributes := #[] }, { accessFlags := 25, nameIndex := 131, descriptorIndex := 25, attributes := #[] }, { accessFlags := 25, nameIndex := 137, descriptorIndex := 25, attributes := #[] }, { accessFlags := 25, nameIndex := 143, descriptorIndex := 25, attributes := #[] }, { accessFlags := 25, nameIndex := 53, descriptorIndex := 25, attributes := #[] }, { accessFlags := 25, nameIndex := 24, descriptorIndex := 25, attributes := #[] }, { accessFlags := 25, nameIndex := 162, descriptorIndex := 25, attributes := #[] }, { accessFlags := 25, nameIndex := 187, descriptorIndex := 25, attributes := #[] }, { accessFlags := 26, nameIndex := 48, descriptorIndex := 25, attributes := #[] }, { accessFlags := 25, nameIndex := 277, descriptorIndex := 25, attributes := #[] }, { accessFlags := 25, nameIndex := 280, descriptorIndex := 25, attributes := #[] }, { accessFlags := 25, nameIndex := 282, descriptorIndex := 25, attributes := #[] }, { accessFlags := 25, nameIndex := 284, descriptorIndex := 25, attributes := #[] }, { accessFlags := 25, nameIndex := 286, descriptorIndex := 25, attributes := #[] }, { accessFlags := 25, nameIndex := 288, descriptorIndex := 25, attributes := #[] }, { accessFlags := 25, nameIndex := 290, descriptorIndex := 25, attributes := #[] }, { accessFlags := 25, nameIndex := 292, descriptorIndex := 25, attributes := #[] }, { accessFlags := 26, nameIndex := 108, descriptorIndex := 109, attributes := #[] }, { accessFlags := 25, nameIndex := 294, descriptorIndex := 25, attributes := #[] }])
  fields := #[{ name := "U", type := (.object "jdk/internal/misc/Unsafe"), accessFlags := 24, slot := 0, constantValue := 0 }, { name := "BIG_ENDIAN", type := .boolean, accessFlags := 26, slot := 1, constantValue := 0 }, { name := "LOG2_ARRAY_BOOLEAN_INDEX_SCALE", type := .int, accessFlags := 25, slot := 2, constantValue := 0 }, { name := "LOG2_ARRAY_BYTE_INDEX_SCALE", type := .int, accessFlags := 25, slot := 3, constantValue := 0 }, { name := "LOG2_ARRAY_CHAR_INDEX_SCALE", type := .int, accessFlags := 25, slot := 4, constantValue := 0 }, { name := "LOG2_ARRAY_SHORT_INDEX_SCALE", type := .int, accessFlags := 25, slot := 5, constantValue := 0 }, { name := "LOG2_ARRAY_INT_INDEX_SCALE", type := .int, accessFlags := 25, slot := 6, constantValue := 0 }, { name := "LOG2_ARRAY_LONG_INDEX_SCALE", type := .int, accessFlags := 25, slot := 7, constantValue := 0 }, { name := "LOG2_ARRAY_FLOAT_INDEX_SCALE", type := .int, accessFlags := 25, slot := 8, constantValue := 0 }, { name := "LOG2_ARRAY_DOUBLE_INDEX_SCALE", type := .int, accessFlags := 25, slot := 9, constantValue := 0 }, { name := "LOG2_BYTE_BIT_SIZE", type := .int, accessFlags := 26, slot := 10, constantValue := 0 }, { name := "T_BOOLEAN", type := .int, accessFlags := 25, slot := 11, constantValue := 0 }, { name := "T_CHAR", type := .int, accessFlags := 25, slot := 12, constantValue := 0 }, { name := "T_FLOAT", type := .int, accessFlags := 25, slot := 13, constantValue := 0 }, { name := "T_DOUBLE", type := .int, accessFlags := 25, slot := 14, constantValue := 0 }, { name := "T_BYTE", type := .int, accessFlags := 25, slot := 15, constantValue := 0 }, { name := "T_SHORT", type := .int, accessFlags := 25, slot := 16, constantValue := 0 }, { name := "T_INT", type := .int, accessFlags := 25, slot := 17, constantValue := 0 }, { name := "T_LONG", type := .int, accessFlags := 25, slot := 18, constantValue := 0 }, { name := "JLA", type := (.object "jdk/internal/access/JavaLangAccess"), accessFlags := 26, slot := 19, constantValue := 0 }, { name := "SOFT_MAX_ARRAY_LENGTH", type := .int, accessFlags := 25, slot := 20, constantValue := 0 }]
  methods := #[k11m0]
  instanceTypes := #[]
  staticTypes := #[(.object "jdk/internal/misc/Unsafe"), .boolean, .int, .int, .int, .int, .int, .int, .int, .int, .int, .int, .int, .int, .int, .int, .int, .int, .int, (.object "jdk/internal/access/JavaLangAccess"), .int]
  resolved := Array.replicate 378 none
  statics := none }

def pool12 : Array CpInfo := pool [(1, u "java/lang/Cloneable"), (0, .class_ 1), (0, u "java/lang/Object"), (0, .class_ 3)] 3

/-- java/lang/Cloneable -/
def k12 : Class := { plain "java/lang/Cloneable" (some 0) with
  accessFlags := 1537
  interfaces := #[]
  cf := some (fileOf pool12 2 #[] #[] 1537 4 #[] #[])
  fields := #[]
  methods := #[]
  instanceTypes := #[]
  staticTypes := #[]
  resolved := Array.replicate 8 none
  statics := none }

/-- the primitive byte -/
def k13 : Class := { plain "byte" none with kind := .primitive 'B', accessFlags := 0x411 }
/-- [B -/
def k14 : Class := { plain "[B" (some 0) with kind := .array 13 .byte, interfaces := #[12, 3], accessFlags := 1041 }

/-- the primitive int -/
def k15 : Class := { plain "int" none with kind := .primitive 'I', accessFlags := 0x411 }
/-- [I -/
def k16 : Class := { plain "[I" (some 0) with kind := .array 15 .int, interfaces := #[12, 3], accessFlags := 1041 }

def heap : Heap := #[{ cls := 8, slots := #[.long 0, .int 1, .null, .int 0, .null, .int 0, .int 0], vm := .statics 8 },
  { cls := 10, slots := #[.null, .null, .null], vm := .statics 10 }]
def classes : Array Class := #[k0, k1, k2, k3, k4, k5, k6, k7, k8, k9, k10, k11, k12, k13, k14, k15, k16]
def interned : List (Array UInt16 × Addr) := []
def slotsUsed : Nat := 10
def theMethod : MethodId := ⟨1, 2⟩
def args0 : Array Value := #[.int 5, .int 6]
def aboutOver (below : List Frame) : State where
  vm := { classes := classes, interned := interned.toArray }
  heap := heap
  slotsUsed := slotsUsed
  threads := #[{ frames := .invoking theMethod args0 :: below }]
def below0 : List Frame := [.native { method := ⟨0, 0⟩, args := #[] }]
def about1 : State := aboutOver below0
def p0 : Program := .bare "" "" ""
def e0 : Env := launch0.env 0 0 0
theorem w_frames : about1.frames = Frame.invoking theMethod args0 :: below0 := rfl
set_option maxRecDepth 65536 in
theorem w_args : argsFit about1.vm theMethod args0 = true := by decide +kernel
set_option maxRecDepth 65536 in
theorem w_heap : heapFits about1 = true := by decide +kernel
set_option maxRecDepth 65536 in
theorem w_runnable : about1.curStatus? = some .runnable := by decide +kernel
set_option maxRecDepth 65536 in
theorem w_alone : about1.alone = true := by decide +kernel
set_option maxRecDepth 65536 in
theorem w_named : about1.methodNamed? x = some theMethod := by decide +kernel
set_option maxRecDepth 65536 in
theorem w_hears : about1.hears theMethod below0 = true := by decide +kernel
set_option maxRecDepth 65536 in
theorem w_ripe : about1.ripe theMethod args0 below0 = true := by decide +kernel
theorem w_running : about1.status = .running := rfl
set_option maxRecDepth 65536 in
theorem w_room : about1.hasRoom e0.platform room_1 = true :=
  launch0.hasRoom_least _ room_1 (by decide +kernel) (by decide +kernel) (by decide +kernel) (by decide +kernel) (by decide +kernel) (by decide +kernel)
theorem allAtoms_all (ts : List Jvm.Cond) (a : Array Jvm.Value) (st : Jvm.State) : (allAtoms ts).before a st = ts.all (fun c => c.before a st) := by
  induction ts with
  | nil => rfl
  | cons c t ih =>
    show (Jvm.Cond.and c (allAtoms t)).before a st = _
    rw [Jvm.Cond.before_and, ih, List.all_cons]
def words1 : List Jvm.Cond := Jvm.Cond.code x code maxLocals ret :: tables_1
/-- a 'code' word, met by the world's own term for the bytes: nothing is compared byte by byte -/
theorem code_word {y : MethodName} {bytes : ByteArray} {mx : Nat} {rt : Option FieldType} {a : Array Value} {s : State} {m : MethodId} {meth : Method} {c : Code} (h1 : s.methodNamed? y = some m) (h2 : s.vm.method? m = some meth) (h3 : meth.code = some c) (h4 : c.code = bytes)
    (h5 : (c.maxLocals == mx && c.exceptionTable.isEmpty && decide (c.maxStack ≤ mostOperands) && decide (meth.sig.returnType = rt) && !meth.locks && decide (parseMethodDescriptor y.desc = some meth.sig)) = true) : (Jvm.Cond.code y bytes mx rt).before a s = true := by
  simp only [Bool.and_eq_true, beq_iff_eq, Bool.not_eq_true', decide_eq_true_eq] at h5
  obtain ⟨⟨⟨⟨⟨g1, g2⟩, g3⟩, g4⟩, g5⟩, g6⟩ := h5
  simp [Cond.before, Cond.holds, Cond.value, h1, h2, h3, h4, g1, g2, g3, g4, g5, g6]
def isCode : Jvm.Cond → Bool
  | .code _ _ _ _ => true
  | _ => false
theorem all_split {L : List Jvm.Cond} {P : Jvm.Cond → Bool} (h1 : L.all (fun c => isCode c || P c) = true) (h2 : ∀ c ∈ L.filter isCode, P c = true) : L.all P = true := by
  refine List.all_eq_true.mpr fun c hc => ?_
  have h := List.all_eq_true.mp h1 c hc
  rcases Bool.eq_false_or_eq_true (isCode c) with hi | hi
  · exact h2 c (List.mem_filter.mpr ⟨hc, hi⟩)
  · simpa [hi] using h
set_option maxRecDepth 65536 in
theorem w_c0 : (Jvm.Cond.code x code maxLocals ret).before args0 about1 = true := code_word (m := ⟨1, 2⟩) (meth := k1m2) (c := k1c2) (by decide +kernel) rfl rfl rfl (by decide +kernel)
set_option maxRecDepth 65536 in
theorem w_c1 : (Jvm.Cond.code ({ cls := "com/example/quillsign/quillsign/sigv4/SigV4", name := "isSignatureDigit", desc := "(I)Z" } : Jvm.MethodName) prog_63_method_3_code (1 : Nat) (Option.some Jvm.ClassFile.FieldType.boolean)).before args0 about1 = true := code_word (m := ⟨2, 1⟩) (meth := k2m1) (c := k2c1) (by decide +kernel) rfl rfl rfl (by decide +kernel)
set_option maxRecDepth 65536 in
theorem w_c2 : (Jvm.Cond.code ({ cls := "com/example/quillsign/quillsign/sigv4/SigV4IsSignatureDigitPinLaw", name := "inTable", desc := "(I)Z" } : Jvm.MethodName) method_2_code (1 : Nat) (Option.some Jvm.ClassFile.FieldType.boolean)).before args0 about1 = true := code_word (m := ⟨1, 1⟩) (meth := k1m1) (c := k1c1) (by decide +kernel) rfl rfl rfl (by decide +kernel)
set_option maxRecDepth 65536 in
theorem w_c3 : (Jvm.Cond.code ({ cls := "java/lang/String", name := "charAt", desc := "(I)C" } : Jvm.MethodName) jdk_42_method_56_code (2 : Nat) (Option.some Jvm.ClassFile.FieldType.char)).before args0 about1 = true := code_word (m := ⟨8, 1⟩) (meth := k8m1) (c := k8c1) (by decide +kernel) rfl rfl rfl (by decide +kernel)
set_option maxRecDepth 65536 in
theorem w_c4 : (Jvm.Cond.code ({ cls := "java/lang/String", name := "isLatin1", desc := "()Z" } : Jvm.MethodName) jdk_42_method_154_code (1 : Nat) (Option.some Jvm.ClassFile.FieldType.boolean)).before args0 about1 = true := code_word (m := ⟨8, 2⟩) (meth := k8m2) (c := k8c2) (by decide +kernel) rfl rfl rfl (by decide +kernel)
set_option maxRecDepth 65536 in
theorem w_c5 : (Jvm.Cond.code ({ cls := "java/lang/StringLatin1", name := "charAt", desc := "([BI)C" } : Jvm.MethodName) jdk_43_method_2_code (2 : Nat) (Option.some Jvm.ClassFile.FieldType.char)).before args0 about1 = true := code_word (m := ⟨9, 1⟩) (meth := k9m1) (c := k9c1) (by decide +kernel) rfl rfl rfl (by decide +kernel)
set_option maxRecDepth 65536 in
theorem w_c6 : (Jvm.Cond.code ({ cls := "java/lang/String", name := "checkIndex", desc := "(II)V" } : Jvm.MethodName) jdk_42_method_155_code (2 : Nat) (Option.none : Option Jvm.ClassFile.FieldType)).before args0 about1 = true := code_word (m := ⟨8, 3⟩) (meth := k8m3) (c := k8c3) (by decide +kernel) rfl rfl rfl (by decide +kernel)
set_option maxRecDepth 65536 in
theorem w_c7 : (Jvm.Cond.code ({ cls := "jdk/internal/util/Preconditions", name := "checkIndex", desc := "(IILjava/util/function/BiFunction;)I" } : Jvm.MethodName) jdk_41_method_11_code (3 : Nat) (Option.some Jvm.ClassFile.FieldType.int)).before args0 about1 = true := code_word (m := ⟨10, 1⟩) (meth := k10m1) (c := k10c1) (by decide +kernel) rfl rfl rfl (by decide +kernel)
def codes1 : List Jvm.Cond := [Jvm.Cond.code x code maxLocals ret, Jvm.Cond.code ({ cls := "com/example/quillsign/quillsign/sigv4/SigV4", name := "isSignatureDigit", desc := "(I)Z" } : Jvm.MethodName) prog_63_method_3_code (1 : Nat) (Option.some Jvm.ClassFile.FieldType.boolean), Jvm.Cond.code ({ cls := "com/example/quillsign/quillsign/sigv4/SigV4IsSignatureDigitPinLaw", name := "inTable", desc := "(I)Z" } : Jvm.MethodName) method_2_code (1 : Nat) (Option.some Jvm.ClassFile.FieldType.boolean), Jvm.Cond.code ({ cls := "java/lang/String", name := "charAt", desc := "(I)C" } : Jvm.MethodName) jdk_42_method_56_code (2 : Nat) (Option.some Jvm.ClassFile.FieldType.char), Jvm.Cond.code ({ cls := "java/lang/String", name := "isLatin1", desc := "()Z" } : Jvm.MethodName) jdk_42_method_154_code (1 : Nat) (Option.some Jvm.ClassFile.FieldType.boolean), Jvm.Cond.code ({ cls := "java/lang/StringLatin1", name := "charAt", desc := "([BI)C" } : Jvm.MethodName) jdk_43_method_2_code (2 : Nat) (Option.some Jvm.ClassFile.FieldType.char), Jvm.Cond.code ({ cls := "java/lang/String", name := "checkIndex", desc := "(II)V" } : Jvm.MethodName) jdk_42_method_155_code (2 : Nat) (Option.none : Option Jvm.ClassFile.FieldType), Jvm.Cond.code ({ cls := "jdk/internal/util/Preconditions", name := "checkIndex", desc := "(IILjava/util/function/BiFunction;)I" } : Jvm.MethodName) jdk_41_method_11_code (3 : Nat) (Option.some Jvm.ClassFile.FieldType.int)]
set_option maxRecDepth 65536 in
theorem codes_eq : words1.filter isCode = codes1 := rfl
theorem w_codes : ∀ c ∈ words1.filter isCode, c.before args0 about1 = true := by
  rw [codes_eq]
  intro c hc
  simp only [codes1, List.mem_cons, List.not_mem_nil, or_false] at hc
  rcases hc with rfl | rfl | rfl | rfl | rfl | rfl | rfl | rfl
  · exact w_c0
  · exact w_c1
  · exact w_c2
  · exact w_c3
  · exact w_c4
  · exact w_c5
  · exact w_c6
  · exact w_c7
set_option maxRecDepth 65536 in
theorem w_t1 : (words1.take 24).all (fun c => isCode c || c.before args0 about1) = true := by decide +kernel
set_option maxRecDepth 65536 in
theorem w_t2 : (words1.drop 24).all (fun c => isCode c || c.before args0 about1) = true := by decide +kernel
theorem w_tables : (allAtoms (Jvm.Cond.code x code maxLocals ret :: tables_1)).before args0 about1 = true := by
  rw [allAtoms_all]
  show words1.all (fun c => c.before args0 about1) = true
  refine all_split ?_ w_codes
  rw [← List.take_append_drop 24 words1, List.all_append, w_t1, w_t2]
  rfl
set_option maxRecDepth 65536 in
theorem w_rest : rest_1_c.before args0 about1 = true := by decide +kernel
set_option maxRecDepth 65536 in
theorem w_case : (Jvm.Cond.and given_1 narrow_1).before args0 about1 = true := by decide +kernel
set_option maxRecDepth 65536 in
theorem w_consts : constsHeld consts_1 about1 := Jvm.Lit.constsHeldB_iff.mp (by decide +kernel)
theorem w_applies : (headSpec (Jvm.Cond.code x code maxLocals ret :: tables_1) room_1).applies x e0.platform about1 = true :=
  (Spec.applies_iff w_frames).mpr ⟨w_running, w_runnable, w_alone, w_named, w_hears, w_ripe, w_room, w_tables⟩
theorem atStart : AtStart classFile x code maxLocals ret World_1 tables_1 room_1 Calls_1 rest_1 Pre_1 launch0 p0 e0 about1 theMethod args0 below0 :=
  ⟨lists_1, trivial, launch0.admits_env _ _ _, launch0.least_env, fairChoices_fair.cas, fairChoices_fair.clock, w_frames, w_args, w_heap, w_applies, ⟨w_consts, trivial⟩, w_rest, w_case⟩
end start1
theorem witness_1 : WitnessClaimed_1 := ⟨start1.p0, start1.e0, start1.about1, start1.theMethod, start1.args0, start1.below0, start1.atStart⟩
end Jvm.Pilot.@@N@@
