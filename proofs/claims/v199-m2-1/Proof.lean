import JvmDerived
import JvmDerived.Pilot.@@N@@Statement
import JvmDerived.Pilot.@@N@@Code
set_option linter.unusedVariables false
set_option linter.unusedSimpArgs false
@@BLOCK:NumsL.lean.txt@@
namespace Jvm.RoadKit
open Sem ClassFile Op Lib Jvm.Stand Jvm.Free Jvm.LawKit
section New
variable {p : Program} {l : Launch} {e : Env} {R : Room} {s : State} {m : MethodId} {args : Array Value} {below : List Frame} {meth : Method} {c : Code} {T : State} {locs : List Loc} {cells slots : Nat}
theorem retI (X : Stand p l e R s m args below meth c T locs cells slots) (hx : p.tables.exec = Jvm.exec) {pc : Nat} {Ls : Array Slot} {z : Int32} {rest : List Value} (hret : meth.sig.returnType = some .int) (hd : decode c.code pc = .ok (.ireturn, 1)) {fs : List Frame}
    (hl : ∀ (f : JFrame) (acts : List Action), f.method = m → f.locked = none → f.entered = [] → (doReturn e (T.setTop f) acts (some (.int z))).1 = T.setFrames fs) : Steps p.tables e below (T.setTop (mkF m pc Ls (.int z :: rest))) (T.setFrames fs) := by
  have hm' : T.vm.method? m = some meth := X.method'
  have hn : narrow .int (.int z) = .int z := rfl
  show Steps p.tables e below (T.setTop { method := m, pc := pc, locals := Ls, stack := _ :: rest, locked := none }) _
  jvm_step X.here [X.here.top, hx, hd, hm', hret, hn]
  first | (intro acts; rw [hl _ acts rfl rfl rfl]) | rw [hl _ _ rfl rfl rfl]
  exact Steps.refl _
end New
end Jvm.RoadKit
namespace Jvm.Pilot.@@N@@
open Jvm Jvm.ClassFile Sem Op Lib Jvm.Free Jvm.Stand Jvm.LawKit Jvm.RoadKit Bundle Jvm.Pilot.@@N@@.Jvm.D
/-- a body that returns r, makes and writes nothing -/
def QP (r : Value) (h0 : Heap) (n0 : Nat) (v : Option Value) (h : Heap) (L : List Loc) : Prop := v = some r ∧ Fr n0 L ∧ h = h0
theorem own_d_prog_35_method_6_code_0 : decode prog_35_method_6_code 0 = .ok (.lload_n 0, 1) := by decide +kernel
theorem own_d_prog_35_method_6_code_1 : decode prog_35_method_6_code 1 = .ok (.getstatic 11, 3) := by decide +kernel
theorem own_d_prog_35_method_6_code_4 : decode prog_35_method_6_code 4 = .ok (.lushr, 1) := by decide +kernel
theorem own_d_prog_35_method_6_code_5 : decode prog_35_method_6_code 5 = .ok (.l2i, 1) := by decide +kernel
theorem own_d_prog_35_method_6_code_6 : decode prog_35_method_6_code 6 = .ok (.istore_n 2, 1) := by decide +kernel
theorem own_d_prog_35_method_6_code_7 : decode prog_35_method_6_code 7 = .ok (.lload_n 0, 1) := by decide +kernel
theorem own_d_prog_35_method_6_code_8 : decode prog_35_method_6_code 8 = .ok (.l2i, 1) := by decide +kernel
theorem own_d_prog_35_method_6_code_9 : decode prog_35_method_6_code 9 = .ok (.sipush 32767, 3) := by decide +kernel
theorem own_d_prog_35_method_6_code_12 : decode prog_35_method_6_code 12 = .ok (.iand, 1) := by decide +kernel
theorem own_d_prog_35_method_6_code_13 : decode prog_35_method_6_code 13 = .ok (.sipush 32764, 3) := by decide +kernel
theorem own_d_prog_35_method_6_code_16 : decode prog_35_method_6_code 16 = .ok (.if_icmp .ge 7, 3) := by decide +kernel
theorem own_d_prog_35_method_6_code_19 : decode prog_35_method_6_code 19 = .ok (.iconst 1, 1) := by decide +kernel
theorem own_d_prog_35_method_6_code_20 : decode prog_35_method_6_code 20 = .ok (.goto 4, 3) := by decide +kernel
theorem own_d_prog_35_method_6_code_24 : decode prog_35_method_6_code 24 = .ok (.istore_n 3, 1) := by decide +kernel
theorem own_d_prog_35_method_6_code_25 : decode prog_35_method_6_code 25 = .ok (.iload_n 3, 1) := by decide +kernel
theorem own_d_prog_35_method_6_code_26 : decode prog_35_method_6_code 26 = .ok (.ifCond .eq 9, 3) := by decide +kernel
theorem own_d_prog_35_method_6_code_29 : decode prog_35_method_6_code 29 = .ok (.iconst 2, 1) := by decide +kernel
theorem own_d_prog_35_method_6_code_30 : decode prog_35_method_6_code 30 = .ok (.iload_n 2, 1) := by decide +kernel
theorem own_d_prog_35_method_6_code_31 : decode prog_35_method_6_code 31 = .ok (.imul, 1) := by decide +kernel
theorem own_d_prog_35_method_6_code_32 : decode prog_35_method_6_code 32 = .ok (.goto 8, 3) := by decide +kernel
theorem own_d_prog_35_method_6_code_40 : decode prog_35_method_6_code 40 = .ok (.ireturn, 1) := by decide +kernel
theorem own_d_prog_35_method_6_code_23 : decode prog_35_method_6_code 23 = .ok (.iconst 0, 1) := by decide +kernel
theorem own_d_prog_35_method_6_code_35 : decode prog_35_method_6_code 35 = .ok (.iconst 2, 1) := by decide +kernel
theorem own_d_prog_35_method_6_code_36 : decode prog_35_method_6_code 36 = .ok (.iload_n 2, 1) := by decide +kernel
theorem own_d_prog_35_method_6_code_37 : decode prog_35_method_6_code 37 = .ok (.imul, 1) := by decide +kernel
theorem own_d_prog_35_method_6_code_38 : decode prog_35_method_6_code 38 = .ok (.iconst 1, 1) := by decide +kernel
theorem own_d_prog_35_method_6_code_39 : decode prog_35_method_6_code 39 = .ok (.iadd, 1) := by decide +kernel
theorem own_pd0 : parseMethodDescriptor "(J)I" = some ⟨[.long], some .int⟩ := by decide +kernel
theorem own_pn0 : plainName "com/example/elderflower/elderflower/PagedWords" = true := by first | (simp [plainName, overriddenIn]; done) | decide +kernel
theorem own_pn1 : plainName "com/example/elderflower/elderflower/PagedWordsIndexOfPinLaw" = true := by first | (simp [plainName, overriddenIn]; done) | decide +kernel
def QL (n0 : Nat) (v : Option Value) (h : Heap) (L : List Loc) : Prop := v = some (.int 1) ∧ Fr n0 L
theorem own_lc0 {a b : Int64} (h : a = b) : lcmpW a b = 0 := (lcW a b).trans ((lc_eq a b).mpr h)
theorem own_lcn {a b : Int64} (h : ¬ a = b) : ¬ lcmpW a b = 0 := fun q => h ((lc_eq a b).mp ((lcW a b).symm.trans q))
theorem own_lclt {a b : Int64} (h : a < b) : lcmpW a b < 0 := (lcW a b).symm ▸ (lc_lt a b).mpr h
theorem own_lcge {a b : Int64} (h : ¬ a < b) : ¬ lcmpW a b < 0 := fun q => h ((lc_lt a b).mp ((lcW a b) ▸ q))
theorem own_lcgt {a b : Int64} (h : b < a) : 0 < lcmpW a b := (lcW a b).symm ▸ (lc_gt a b).mpr h
theorem own_lcle {a b : Int64} (h : ¬ b < a) : ¬ 0 < lcmpW a b := fun q => h ((lc_gt a b).mp ((lcW a b) ▸ q))
theorem own_mulc {x c : Int32} {k : Int} (hc : c.toInt = k) (h1 : -2 ^ 31 ≤ k * x.toInt) (h2 : k * x.toInt < 2 ^ 31) : (c * x).toInt = k * x.toInt := by
  rw [Jvm.Kit.i32_mul (by rw [hc]; exact h1) (by rw [hc]; exact h2), hc]
theorem own_mulcL {x c : Int64} {k : Int} (hc : c.toInt = k) (h1 : -2 ^ 63 ≤ k * x.toInt) (h2 : k * x.toInt < 2 ^ 63) : (c * x).toInt = k * x.toInt := by
  rw [Jvm.Kit.i64_mul (by rw [hc]; exact h1) (by rw [hc]; exact h2), hc]
theorem own_addc {x c : Int32} {k : Int} (hc : c.toInt = k) (h1 : -2 ^ 31 ≤ k + x.toInt) (h2 : k + x.toInt < 2 ^ 31) : (c + x).toInt = k + x.toInt := by
  rw [Jvm.Kit.i32_add (by rw [hc]; exact h1) (by rw [hc]; exact h2), hc]
theorem own_caddr {x c : Int32} {k : Int} (hc : c.toInt = k) (h1 : -2 ^ 31 ≤ x.toInt + k) (h2 : x.toInt + k < 2 ^ 31) : (x + c).toInt = x.toInt + k := by
  rw [Jvm.Kit.i32_add (by rw [hc]; exact h1) (by rw [hc]; exact h2), hc]
theorem own_lrem_eq (x y : Int64) : x - (x / y) * y = x % y := by
  apply Int64.toInt_inj.mp
  have h1 := Int64.le_toInt (x % y)
  have h2 := Int64.toInt_lt (x % y)
  rw [Int64.toInt_sub, Int64.toInt_mul, Int64.toInt_div, Int.bmod_mul_bmod, Int.sub_bmod_bmod, Int.mul_comm (x.toInt.tdiv y.toInt), ← Int.tmod_def, ← Int64.toInt_mod]
  exact Int.bmod_eq_of_le_mul_two (by omega) (by omega)
theorem own_lremM {p : Program} {l : Launch} {e : Env} {R : Room} {s : State} {m : MethodId} {args : Array Value} {below : List Frame} {meth : Method} {c : Code} {T : State} {locs : List Loc} {cells slots : Nat} {g : JFrame} {target : State} (X : Stand p l e R s m args below meth c T locs cells slots) (hx : p.tables.exec = Jvm.exec) (hg : g.method = m) {x y : Int64} {rest : List Value} (hd : decode c.code g.pc = .ok (.lrem, 1)) (hs : g.stack = .long y :: .long x :: rest) (hy : y ≠ 0)
    (hr : Steps p.tables e below (T.setTop { g with pc := g.pc + 1, stack := .long (x % y) :: rest }) target) : Steps p.tables e below (T.setTop g) target :=
  XS.lrem X.here hx hg hd hs hy (by rw [own_lrem_eq]; exact hr)
theorem own_intv {args : Array Value} {Z : State} {t : Term} {k : Int32} (h : (Cond.eq t (.int k)).value args Z none Z [] = some true) : t.eval args Z none [] Z = some (.int k) := by
  obtain ⟨x, y, e1, e2, -, k2⟩ := cmp_v (Or.inl h)
  have e2' : some (Value.int k) = some y := e2
  cases e2'
  obtain ⟨z, rfl⟩ := k2
  have q := gotT (Cond.eq_ints e1 (Term.int_eval k)) h
  rw [← q]; exact e1
theorem own_fldI {args : Array Value} {Z : State} {t : Term} {C n d : String} {k : Int32} {a : Addr} (ht : t.eval args Z none [] Z = some (.ref a)) (h : (Cond.eq (.field t C n d) (.int k)).value args Z none Z [] = some true) : Fld Z Z.heap a C n d (.int k) :=
  Fld.start ((fld_at ht).symm.trans (own_intv h))
def own_page (w : Int64) : Int32 := ((w.toUInt64 >>> ((15 : Int32) &&& 0x3f).toInt64.toUInt64).toInt64).toInt32
def own_idx (w : Int64) : Int32 := if (w.toInt32 &&& (32767 : Int32)) < (32764 : Int32) then (2 : Int32) * own_page w else (2 : Int32) * own_page w + 1
theorem own_pg {w : Int64} (h0 : 0 ≤ w.toInt) (h1 : w.toInt < 2 ^ 45) : (own_page w).toInt = w.toInt / 32768 := by
  have q : ((w.toUInt64 >>> ((15 : Int32) &&& 0x3f).toInt64.toUInt64).toInt64).toInt = w.toInt / 2 ^ 15 := Jvm.Kit.i64_lushr (Jvm.Kit.i64_nonneg.mpr h0) (k := 15) (by decide +kernel) (by decide)
  unfold own_page
  rw [Jvm.Kit.i32_of_i64 (by rw [q]; omega) (by rw [q]; omega), q]
  omega
theorem own_low (w : Int64) : (w.toInt32 &&& (32767 : Int32)).toInt = w.toInt % 32768 := by
  have e : (w.toInt32 &&& (32767 : Int32)).toInt = w.toInt32.toInt % 2 ^ 15 := Jvm.Kit.i32_mask w.toInt32 32767 (k := 15) (by decide) (by decide)
  rw [e, Int64.toInt_toInt32, Int.bmod_def]
  split <;> omega
theorem own_divm (w : Int64) (h0 : 0 ≤ w.toInt) : (w / (32768 : Int64)).toInt = w.toInt / 32768 ∧ (w % (32768 : Int64)).toInt = w.toInt % 32768 := by
  have t : (32768 : Int64).toInt = 32768 := by decide
  constructor
  · rw [Jvm.Kit.i64_div (by omega), t, Int.tdiv_eq_ediv_of_nonneg h0]
  · rw [Int64.toInt_mod, t, Int.tmod_eq_emod_of_nonneg h0]
theorem own_lowlt {w : Int64} (h0 : 0 ≤ w.toInt) : (w.toInt32 &&& (32767 : Int32)) < (32764 : Int32) ↔ (w % (32768 : Int64)) < (32764 : Int64) := by
  have t : (32764 : Int32).toInt = 32764 := by decide
  have t' : (32764 : Int64).toInt = 32764 := by decide
  rw [Int32.lt_iff_toInt_lt, Int64.lt_iff_toInt_lt, own_low, (own_divm w h0).2, t, t']
theorem own_even {w : Int64} (h0 : 0 ≤ w.toInt) (h1 : w.toInt < 2 ^ 45) (hc : (w % (32768 : Int64)) < (32764 : Int64)) : (own_idx w).toInt64 = (2 : Int64) * (w / (32768 : Int64)) := by
  have t2 : (2 : Int32).toInt = 2 := by decide
  have t2' : (2 : Int64).toInt = 2 := by decide
  have p := own_pg h0 h1
  have d := (own_divm w h0).1
  apply Int64.toInt_inj.mp
  unfold own_idx
  rw [if_pos ((own_lowlt h0).mpr hc), Jvm.Kit.i64_of_i32, own_mulc t2 (by omega) (by omega), own_mulcL t2' (by omega) (by omega), p, d]
theorem own_odd {w : Int64} (h0 : 0 ≤ w.toInt) (h1 : w.toInt < 2 ^ 45) (hc : ¬ (w % (32768 : Int64)) < (32764 : Int64)) : (own_idx w).toInt64 = (2 : Int64) * (w / (32768 : Int64)) + (1 : Int64) := by
  have t1 : (1 : Int32).toInt = 1 := by decide
  have t1' : (1 : Int64).toInt = 1 := by decide
  have t2 : (2 : Int32).toInt = 2 := by decide
  have t2' : (2 : Int64).toInt = 2 := by decide
  have p := own_pg h0 h1
  have d := (own_divm w h0).1
  have m1 : ((2 : Int32) * own_page w).toInt = 2 * (w.toInt / 32768) := by rw [own_mulc t2 (by omega) (by omega), p]
  have m2 : ((2 : Int64) * (w / (32768 : Int64))).toInt = 2 * (w.toInt / 32768) := by rw [own_mulcL t2' (by omega) (by omega), d]
  apply Int64.toInt_inj.mp
  unfold own_idx
  rw [if_neg fun q => hc ((own_lowlt h0).mp q), Jvm.Kit.i64_of_i32, Jvm.Kit.i32_add (by omega) (by omega), Jvm.Kit.i64_add (by omega) (by omega), m1, m2, t1, t1']
theorem own_base (a : Int64) : 0 ≤ (a &&& (35184372088831 : Int64)).toInt ∧ (a &&& (35184372088831 : Int64)).toInt < 2 ^ 45 := by
  have e : (a &&& (35184372088831 : Int64)).toInt = a.toInt % 2 ^ 45 := Jvm.Kit.i64_mask a 35184372088831 (k := 45) (by decide) (by decide)
  omega
theorem own_edge (b : Int64) (h0 : 0 ≤ b.toInt) (h1 : b.toInt < 2 ^ 45) (f : Int32) : 0 ≤ ((((b / (32768 : Int64)) * (32768 : Int64)) + (32760 : Int64)) + ((f &&& (7 : Int32)).toInt64)).toInt ∧ ((((b / (32768 : Int64)) * (32768 : Int64)) + (32760 : Int64)) + ((f &&& (7 : Int32)).toInt64)).toInt < 2 ^ 45 := by
  have d := (own_divm b h0).1
  have e : (f &&& (7 : Int32)).toInt = f.toInt % 2 ^ 3 := Jvm.Kit.i32_mask f 7 (k := 3) (by decide) (by decide)
  have t : (32768 : Int64).toInt = 32768 := by decide
  have t' : (32760 : Int64).toInt = 32760 := by decide
  have e' : ((f &&& (7 : Int32)).toInt64).toInt = f.toInt % 2 ^ 3 := (Jvm.Kit.i64_of_i32 _).trans e
  have m1 : ((b / (32768 : Int64)) * (32768 : Int64)).toInt = b.toInt / 32768 * 32768 := by rw [Jvm.Kit.i64_mul (by rw [d, t]; omega) (by rw [d, t]; omega), d, t]
  have m2 : (((b / (32768 : Int64)) * (32768 : Int64)) + (32760 : Int64)).toInt = b.toInt / 32768 * 32768 + 32760 := by rw [Jvm.Kit.i64_add (by omega) (by omega), m1, t']
  have m3 : ((((b / (32768 : Int64)) * (32768 : Int64)) + (32760 : Int64)) + ((f &&& (7 : Int32)).toInt64)).toInt = b.toInt / 32768 * 32768 + 32760 + f.toInt % 2 ^ 3 := by rw [Jvm.Kit.i64_add (by omega) (by omega), m2, e']
  omega
theorem own_ef_rm1 (m : MethodId) (y0 : Int64) : entryFrame m #[(.long y0)] 4 = mkF m 0 #[.val (.long y0), .second, .unset, .unset] [] := by first | (simp [entryFrame, mkF, argsToLocals, Value.category]; done) | rfl
set_option maxRecDepth 65536 in
set_option maxHeartbeats 40000000 in
theorem rm1 (l : Launch) (Z : State) (a0 : Array Value) (hw : ∀ d ∈ tables_1, d.before a0 Z = true) (ws : List Jvm.Cond) (p1 : Int64) (h0 : Heap) (n0 : Nat) (Z0 : n0 ≤ h0.size) (S_PAGE_SHIFT : Sta Z h0 "com/example/elderflower/elderflower/PagedWords" "PAGE_SHIFT" "I" (.int (15 : Int32))) :
    MetFree l (⟨"com/example/elderflower/elderflower/PagedWords", "indexOf", "(J)I"⟩ : MethodName) (head1 (Jvm.Cond.code (⟨"com/example/elderflower/elderflower/PagedWords", "indexOf", "(J)I"⟩ : MethodName) prog_35_method_6_code 4 (some .int) :: ws) ({ frames := 0, cells := 0, slots := 0, locals := 0 } : Room)) (fun a U => a = #[(.long p1)] ∧ Z.Warmed39 U.vm ∧ U.heap = h0) (fun _ _ _ _ _ => True) (fun _ U o U' => ∃ v L, o = .returned v ∧ QP (.int (own_idx p1)) h0 n0 v U'.heap L ∧ FrameEnd U o U' L ({ frames := 0, cells := 0, slots := 0, locals := 0 } : Room).cells ({ frames := 0, cells := 0, slots := 0, locals := 0 } : Room).slots) := by
  refine MetFree.of_bodySF (plainFor_of_name own_pn0) hisR ?_
  intro p e s m args below meth c s₁ Bd hml0 hP hK
  obtain ⟨rfl, hZ, hh⟩ := hP
  have hx := Bd.exec
  have hby := Bd.bytes
  have hml : c.maxLocals = 4 := hml0
  have hown : s.vm.findClass "com/example/elderflower/elderflower/PagedWords" = some m.cls := findClass_of_methodNamed Bd.named
  have hnm := (name_of_methodNamed Bd.named Bd.method).1
  have X0 : Stand p l e ({ frames := 0, cells := 0, slots := 0, locals := 0 } : Room) s m #[(.long p1)] below meth c s₁ [] 0 0 := Stand.of_body Bd
  have e0 : s₁.heap = h0 := by rw [← hh, Bd.state]; rfl
  have N0 := Fr.nil n0
  have pre0 : ∀ t, Steps p.tables e below (s₁.setTop (mkF m 0 #[.val (.long p1), .second, .unset, .unset] [])) t → Steps p.tables e below (s₁.setTop (entryFrame m #[(.long p1)] 4)) t := fun t k => castTop (own_ef_rm1 m p1) k
  obtain ⟨T1, X1, e1, st1⟩ := getS2 X0 hx hZ hown (host := "") (Or.inl (hw _ (List.mem_of_getElem? (i := 8) rfl))) Via.refl e0 S_PAGE_SHIFT (g := (mkF m 1 #[.val (.long p1), .second, .unset, .unset] [(.long p1)])) rfl (hb hby own_d_prog_35_method_6_code_1)
  have pre2 : ∀ t, Steps p.tables e below (T1.setTop (mkF m 16 #[.val (.long p1), .second, .val (.int (((p1.toUInt64 >>> ((15 : Int32) &&& 0x3f).toInt64.toUInt64).toInt64).toInt32)), .unset] [(.int (32764 : Int32)), (.int ((p1.toInt32) &&& (32767 : Int32)))])) t → Steps p.tables e below (s₁.setTop (entryFrame m #[(.long p1)] 4)) t := fun t k => pre0 t (by
    show Steps p.tables e below (s₁.setTop (mkF m 0 #[.val (.long p1), .second, .unset, .unset] [])) _
    refine XS.lloadN X0.here hx rfl (hb hby own_d_prog_35_method_6_code_0) rfl ?_
    show Steps p.tables e below (s₁.setTop (mkF m 1 #[.val (.long p1), .second, .unset, .unset] [(.long p1)])) _
    refine st1 _ ?_
    show Steps p.tables e below (T1.setTop (mkF m 4 #[.val (.long p1), .second, .unset, .unset] [(.int (15 : Int32)), (.long p1)])) _
    refine XS.lushr X1.here hx rfl (hb hby own_d_prog_35_method_6_code_4) rfl ?_
    show Steps p.tables e below (T1.setTop (mkF m 5 #[.val (.long p1), .second, .unset, .unset] [(.long ((p1.toUInt64 >>> ((15 : Int32) &&& 0x3f).toInt64.toUInt64).toInt64))])) _
    refine XS.l2i X1.here hx rfl (hb hby own_d_prog_35_method_6_code_5) rfl ?_
    show Steps p.tables e below (T1.setTop (mkF m 6 #[.val (.long p1), .second, .unset, .unset] [(.int (((p1.toUInt64 >>> ((15 : Int32) &&& 0x3f).toInt64.toUInt64).toInt64).toInt32))])) _
    refine XS.istoreN X1.here hx rfl (hb hby own_d_prog_35_method_6_code_6) rfl (l' := #[.val (.long p1), .second, .val (.int (((p1.toUInt64 >>> ((15 : Int32) &&& 0x3f).toInt64.toUInt64).toInt64).toInt32)), .unset]) rfl ?_
    show Steps p.tables e below (T1.setTop (mkF m 7 #[.val (.long p1), .second, .val (.int (((p1.toUInt64 >>> ((15 : Int32) &&& 0x3f).toInt64.toUInt64).toInt64).toInt32)), .unset] [])) _
    refine XS.lloadN X1.here hx rfl (hb hby own_d_prog_35_method_6_code_7) rfl ?_
    show Steps p.tables e below (T1.setTop (mkF m 8 #[.val (.long p1), .second, .val (.int (((p1.toUInt64 >>> ((15 : Int32) &&& 0x3f).toInt64.toUInt64).toInt64).toInt32)), .unset] [(.long p1)])) _
    refine XS.l2i X1.here hx rfl (hb hby own_d_prog_35_method_6_code_8) rfl ?_
    show Steps p.tables e below (T1.setTop (mkF m 9 #[.val (.long p1), .second, .val (.int (((p1.toUInt64 >>> ((15 : Int32) &&& 0x3f).toInt64.toUInt64).toInt64).toInt32)), .unset] [(.int (p1.toInt32))])) _
    refine XS.sipush X1.here hx rfl (hb hby own_d_prog_35_method_6_code_9) ?_
    show Steps p.tables e below (T1.setTop (mkF m 12 #[.val (.long p1), .second, .val (.int (((p1.toUInt64 >>> ((15 : Int32) &&& 0x3f).toInt64.toUInt64).toInt64).toInt32)), .unset] [(.int (32767 : Int32)), (.int (p1.toInt32))])) _
    refine XS.iand X1.here hx rfl (hb hby own_d_prog_35_method_6_code_12) rfl ?_
    show Steps p.tables e below (T1.setTop (mkF m 13 #[.val (.long p1), .second, .val (.int (((p1.toUInt64 >>> ((15 : Int32) &&& 0x3f).toInt64.toUInt64).toInt64).toInt32)), .unset] [(.int ((p1.toInt32) &&& (32767 : Int32)))])) _
    refine XS.sipush X1.here hx rfl (hb hby own_d_prog_35_method_6_code_13) ?_
    exact k)
  by_cases hc : (p1.toInt32 &&& (32767 : Int32)) < (32764 : Int32)
  · have pre3 : ∀ t, Steps p.tables e below (T1.setTop (mkF m 40 #[.val (.long p1), .second, .val (.int (((p1.toUInt64 >>> ((15 : Int32) &&& 0x3f).toInt64.toUInt64).toInt64).toInt32)), .val (.int (1 : Int32))] [(.int ((2 : Int32) * (((p1.toUInt64 >>> ((15 : Int32) &&& 0x3f).toInt64.toUInt64).toInt64).toInt32)))])) t → Steps p.tables e below (s₁.setTop (entryFrame m #[(.long p1)] 4)) t := fun t k => pre2 t (by
      show Steps p.tables e below (T1.setTop (mkF m 16 #[.val (.long p1), .second, .val (.int (((p1.toUInt64 >>> ((15 : Int32) &&& 0x3f).toInt64.toUInt64).toInt64).toInt32)), .unset] [(.int (32764 : Int32)), (.int ((p1.toInt32) &&& (32767 : Int32)))])) _
      refine XS.icmpNo X1.here hx rfl (hb hby own_d_prog_35_method_6_code_16) rfl (tlt (hc : ((p1.toInt32) &&& (32767 : Int32)) < (32764 : Int32))).2.1 ?_
      show Steps p.tables e below (T1.setTop (mkF m 19 #[.val (.long p1), .second, .val (.int (((p1.toUInt64 >>> ((15 : Int32) &&& 0x3f).toInt64.toUInt64).toInt64).toInt32)), .unset] [])) _
      refine XS.iconst X1.here hx rfl (hb hby own_d_prog_35_method_6_code_19) ?_
      show Steps p.tables e below (T1.setTop (mkF m 20 #[.val (.long p1), .second, .val (.int (((p1.toUInt64 >>> ((15 : Int32) &&& 0x3f).toInt64.toUInt64).toInt64).toInt32)), .unset] [(.int (1 : Int32))])) _
      refine XS.goto X1.here hx rfl (pc0 := 20) (pc' := 24) rfl (hb hby own_d_prog_35_method_6_code_20) (by decide) (by decide) ?_
      show Steps p.tables e below (T1.setTop (mkF m 24 #[.val (.long p1), .second, .val (.int (((p1.toUInt64 >>> ((15 : Int32) &&& 0x3f).toInt64.toUInt64).toInt64).toInt32)), .unset] [(.int (1 : Int32))])) _
      refine XS.istoreN X1.here hx rfl (hb hby own_d_prog_35_method_6_code_24) rfl (l' := #[.val (.long p1), .second, .val (.int (((p1.toUInt64 >>> ((15 : Int32) &&& 0x3f).toInt64.toUInt64).toInt64).toInt32)), .val (.int (1 : Int32))]) rfl ?_
      show Steps p.tables e below (T1.setTop (mkF m 25 #[.val (.long p1), .second, .val (.int (((p1.toUInt64 >>> ((15 : Int32) &&& 0x3f).toInt64.toUInt64).toInt64).toInt32)), .val (.int (1 : Int32))] [])) _
      refine XS.iloadN X1.here hx rfl (hb hby own_d_prog_35_method_6_code_25) rfl ?_
      show Steps p.tables e below (T1.setTop (mkF m 26 #[.val (.long p1), .second, .val (.int (((p1.toUInt64 >>> ((15 : Int32) &&& 0x3f).toInt64.toUInt64).toInt64).toInt32)), .val (.int (1 : Int32))] [(.int (1 : Int32))])) _
      refine XS.ifNo X1.here hx rfl (hb hby own_d_prog_35_method_6_code_26) rfl ((if0 _ _).trans (feq ((by decide) : ¬ ((1 : Int32) = (0 : Int32)))).1) ?_
      show Steps p.tables e below (T1.setTop (mkF m 29 #[.val (.long p1), .second, .val (.int (((p1.toUInt64 >>> ((15 : Int32) &&& 0x3f).toInt64.toUInt64).toInt64).toInt32)), .val (.int (1 : Int32))] [])) _
      refine XS.iconst X1.here hx rfl (hb hby own_d_prog_35_method_6_code_29) ?_
      show Steps p.tables e below (T1.setTop (mkF m 30 #[.val (.long p1), .second, .val (.int (((p1.toUInt64 >>> ((15 : Int32) &&& 0x3f).toInt64.toUInt64).toInt64).toInt32)), .val (.int (1 : Int32))] [(.int (2 : Int32))])) _
      refine XS.iloadN X1.here hx rfl (hb hby own_d_prog_35_method_6_code_30) rfl ?_
      show Steps p.tables e below (T1.setTop (mkF m 31 #[.val (.long p1), .second, .val (.int (((p1.toUInt64 >>> ((15 : Int32) &&& 0x3f).toInt64.toUInt64).toInt64).toInt32)), .val (.int (1 : Int32))] [(.int (((p1.toUInt64 >>> ((15 : Int32) &&& 0x3f).toInt64.toUInt64).toInt64).toInt32)), (.int (2 : Int32))])) _
      refine XS.imul X1.here hx rfl (hb hby own_d_prog_35_method_6_code_31) rfl ?_
      show Steps p.tables e below (T1.setTop (mkF m 32 #[.val (.long p1), .second, .val (.int (((p1.toUInt64 >>> ((15 : Int32) &&& 0x3f).toInt64.toUInt64).toInt64).toInt32)), .val (.int (1 : Int32))] [(.int ((2 : Int32) * (((p1.toUInt64 >>> ((15 : Int32) &&& 0x3f).toInt64.toUInt64).toInt64).toInt32)))])) _
      refine XS.goto X1.here hx rfl (pc0 := 32) (pc' := 40) rfl (hb hby own_d_prog_35_method_6_code_32) (by decide) (by decide) ?_
      exact k)
    obtain ⟨fs, hr, hrun, hended, hW, hsame⟩ := X1.leave (v := some (.int ((2 : Int32) * (((p1.toUInt64 >>> ((15 : Int32) &&& 0x3f).toInt64.toUInt64).toInt64).toInt32)))) (fun h => by rw [Bd.returns] at h; cases h)
    refine ⟨_, _, pre3 _ ?_, hrun, hended, _, _, rfl, ?_, ⟨_, rfl⟩, hW, hsame.mono (by decide) (by decide)⟩
    · show Steps p.tables e below (T1.setTop (mkF m 40 #[.val (.long p1), .second, .val (.int (((p1.toUInt64 >>> ((15 : Int32) &&& 0x3f).toInt64.toUInt64).toInt64).toInt32)), .val (.int (1 : Int32))] [(.int ((2 : Int32) * (((p1.toUInt64 >>> ((15 : Int32) &&& 0x3f).toInt64.toUInt64).toInt64).toInt32)))])) _
      exact retI X1 hx Bd.returns (hb hby own_d_prog_35_method_6_code_40) hr
    · show QP (.int (own_idx p1)) h0 n0 _ T1.heap _
      rw [e1]
      exact ⟨by rw [own_idx, if_pos hc]; rfl, N0, rfl⟩
  · have pre4 : ∀ t, Steps p.tables e below (T1.setTop (mkF m 40 #[.val (.long p1), .second, .val (.int (((p1.toUInt64 >>> ((15 : Int32) &&& 0x3f).toInt64.toUInt64).toInt64).toInt32)), .val (.int (0 : Int32))] [(.int (((2 : Int32) * (((p1.toUInt64 >>> ((15 : Int32) &&& 0x3f).toInt64.toUInt64).toInt64).toInt32)) + (1 : Int32)))])) t → Steps p.tables e below (s₁.setTop (entryFrame m #[(.long p1)] 4)) t := fun t k => pre2 t (by
      show Steps p.tables e below (T1.setTop (mkF m 16 #[.val (.long p1), .second, .val (.int (((p1.toUInt64 >>> ((15 : Int32) &&& 0x3f).toInt64.toUInt64).toInt64).toInt32)), .unset] [(.int (32764 : Int32)), (.int ((p1.toInt32) &&& (32767 : Int32)))])) _
      refine XS.icmpYes X1.here hx rfl (pc0 := 16) (pc' := 23) rfl (hb hby own_d_prog_35_method_6_code_16) rfl (flt (hc : ¬ (((p1.toInt32) &&& (32767 : Int32)) < (32764 : Int32)))).2.1 (by decide) (by decide) ?_
      show Steps p.tables e below (T1.setTop (mkF m 23 #[.val (.long p1), .second, .val (.int (((p1.toUInt64 >>> ((15 : Int32) &&& 0x3f).toInt64.toUInt64).toInt64).toInt32)), .unset] [])) _
      refine XS.iconst X1.here hx rfl (hb hby own_d_prog_35_method_6_code_23) ?_
      show Steps p.tables e below (T1.setTop (mkF m 24 #[.val (.long p1), .second, .val (.int (((p1.toUInt64 >>> ((15 : Int32) &&& 0x3f).toInt64.toUInt64).toInt64).toInt32)), .unset] [(.int (0 : Int32))])) _
      refine XS.istoreN X1.here hx rfl (hb hby own_d_prog_35_method_6_code_24) rfl (l' := #[.val (.long p1), .second, .val (.int (((p1.toUInt64 >>> ((15 : Int32) &&& 0x3f).toInt64.toUInt64).toInt64).toInt32)), .val (.int (0 : Int32))]) rfl ?_
      show Steps p.tables e below (T1.setTop (mkF m 25 #[.val (.long p1), .second, .val (.int (((p1.toUInt64 >>> ((15 : Int32) &&& 0x3f).toInt64.toUInt64).toInt64).toInt32)), .val (.int (0 : Int32))] [])) _
      refine XS.iloadN X1.here hx rfl (hb hby own_d_prog_35_method_6_code_25) rfl ?_
      show Steps p.tables e below (T1.setTop (mkF m 26 #[.val (.long p1), .second, .val (.int (((p1.toUInt64 >>> ((15 : Int32) &&& 0x3f).toInt64.toUInt64).toInt64).toInt32)), .val (.int (0 : Int32))] [(.int (0 : Int32))])) _
      refine XS.ifYes X1.here hx rfl (pc0 := 26) (pc' := 35) rfl (hb hby own_d_prog_35_method_6_code_26) rfl ((if0 _ _).trans (teq ((by decide) : (0 : Int32) = (0 : Int32))).1) (by decide) (by decide) ?_
      show Steps p.tables e below (T1.setTop (mkF m 35 #[.val (.long p1), .second, .val (.int (((p1.toUInt64 >>> ((15 : Int32) &&& 0x3f).toInt64.toUInt64).toInt64).toInt32)), .val (.int (0 : Int32))] [])) _
      refine XS.iconst X1.here hx rfl (hb hby own_d_prog_35_method_6_code_35) ?_
      show Steps p.tables e below (T1.setTop (mkF m 36 #[.val (.long p1), .second, .val (.int (((p1.toUInt64 >>> ((15 : Int32) &&& 0x3f).toInt64.toUInt64).toInt64).toInt32)), .val (.int (0 : Int32))] [(.int (2 : Int32))])) _
      refine XS.iloadN X1.here hx rfl (hb hby own_d_prog_35_method_6_code_36) rfl ?_
      show Steps p.tables e below (T1.setTop (mkF m 37 #[.val (.long p1), .second, .val (.int (((p1.toUInt64 >>> ((15 : Int32) &&& 0x3f).toInt64.toUInt64).toInt64).toInt32)), .val (.int (0 : Int32))] [(.int (((p1.toUInt64 >>> ((15 : Int32) &&& 0x3f).toInt64.toUInt64).toInt64).toInt32)), (.int (2 : Int32))])) _
      refine XS.imul X1.here hx rfl (hb hby own_d_prog_35_method_6_code_37) rfl ?_
      show Steps p.tables e below (T1.setTop (mkF m 38 #[.val (.long p1), .second, .val (.int (((p1.toUInt64 >>> ((15 : Int32) &&& 0x3f).toInt64.toUInt64).toInt64).toInt32)), .val (.int (0 : Int32))] [(.int ((2 : Int32) * (((p1.toUInt64 >>> ((15 : Int32) &&& 0x3f).toInt64.toUInt64).toInt64).toInt32)))])) _
      refine XS.iconst X1.here hx rfl (hb hby own_d_prog_35_method_6_code_38) ?_
      show Steps p.tables e below (T1.setTop (mkF m 39 #[.val (.long p1), .second, .val (.int (((p1.toUInt64 >>> ((15 : Int32) &&& 0x3f).toInt64.toUInt64).toInt64).toInt32)), .val (.int (0 : Int32))] [(.int (1 : Int32)), (.int ((2 : Int32) * (((p1.toUInt64 >>> ((15 : Int32) &&& 0x3f).toInt64.toUInt64).toInt64).toInt32)))])) _
      refine XS.iadd X1.here hx rfl (hb hby own_d_prog_35_method_6_code_39) rfl ?_
      exact k)
    obtain ⟨fs, hr, hrun, hended, hW, hsame⟩ := X1.leave (v := some (.int (((2 : Int32) * (((p1.toUInt64 >>> ((15 : Int32) &&& 0x3f).toInt64.toUInt64).toInt64).toInt32)) + (1 : Int32)))) (fun h => by rw [Bd.returns] at h; cases h)
    refine ⟨_, _, pre4 _ ?_, hrun, hended, _, _, rfl, ?_, ⟨_, rfl⟩, hW, hsame.mono (by decide) (by decide)⟩
    · show Steps p.tables e below (T1.setTop (mkF m 40 #[.val (.long p1), .second, .val (.int (((p1.toUInt64 >>> ((15 : Int32) &&& 0x3f).toInt64.toUInt64).toInt64).toInt32)), .val (.int (0 : Int32))] [(.int (((2 : Int32) * (((p1.toUInt64 >>> ((15 : Int32) &&& 0x3f).toInt64.toUInt64).toInt64).toInt32)) + (1 : Int32)))])) _
      exact retI X1 hx Bd.returns (hb hby own_d_prog_35_method_6_code_40) hr
    · show QP (.int (own_idx p1)) h0 n0 _ T1.heap _
      rw [e1]
      exact ⟨by rw [own_idx, if_neg hc]; rfl, N0, rfl⟩
theorem own_ef_rm0 (m : MethodId) (y0 : Int64) (y1 : Int32) : entryFrame m #[(.long y0), (.int y1)] maxLocals = mkF m 0 #[.val (.long y0), .second, .val (.int y1), .unset, .unset, .unset, .unset, .unset, .unset, .unset, .unset, .unset, .unset, .unset] [] := by first | (simp [entryFrame, mkF, argsToLocals, Value.category, maxLocals]; done) | rfl
set_option maxRecDepth 65536 in
set_option maxHeartbeats 40000000 in
theorem rm0 (l : Launch) (Z : State) (a0 : Array Value) (hw : ∀ d ∈ tables_1, d.before a0 Z = true) (ws : List Jvm.Cond) (p1 : Int64) (p2 : Int32) (h0 : Heap) (n0 : Nat) (Z0 : n0 ≤ h0.size) (S_PAGE_SHIFT : Sta Z h0 "com/example/elderflower/elderflower/PagedWords" "PAGE_SHIFT" "I" (.int (15 : Int32))) :
    MetFree l x (head1 (Jvm.Cond.code x code maxLocals ret :: ws) room_1) (fun a U => a = #[(.long p1), (.int p2)] ∧ Z.Warmed39 U.vm ∧ U.heap = h0) (fun _ _ _ _ _ => True) (fun _ U o U' => ∃ v L, o = .returned v ∧ QL n0 v U'.heap L ∧ FrameEnd U o U' L 0 0) := by
  refine MetFree.of_bodySF (plainFor_of_name own_pn1) hisR ?_
  intro p e s m args below meth c s₁ Bd hml0 hP hK
  obtain ⟨rfl, hZ, hh⟩ := hP
  have hx := Bd.exec
  have hby := Bd.bytes
  have hml : c.maxLocals = 14 := hml0
  have hown : s.vm.findClass "com/example/elderflower/elderflower/PagedWordsIndexOfPinLaw" = some m.cls := findClass_of_methodNamed Bd.named
  have hnm := (name_of_methodNamed Bd.named Bd.method).1
  have X0 : Stand p l e room_1 s m #[(.long p1), (.int p2)] below meth c s₁ [] 0 0 := Stand.of_body Bd
  have e0 : s₁.heap = h0 := by rw [← hh, Bd.state]; rfl
  have N0 := Fr.nil n0
  have pre0 : ∀ t, Steps p.tables e below (s₁.setTop (mkF m 0 #[.val (.long p1), .second, .val (.int p2), .unset, .unset, .unset, .unset, .unset, .unset, .unset, .unset, .unset, .unset, .unset] [])) t → Steps p.tables e below (s₁.setTop (entryFrame m #[(.long p1), (.int p2)] maxLocals)) t := fun t k => castTop (own_ef_rm0 m p1 p2) k
  have hba := own_base p1
  have pre1 : ∀ t, Steps p.tables e below (s₁.setTop (mkF m 5 #[.val (.long p1), .second, .val (.int p2), .unset, .unset, .unset, .unset, .unset, .unset, .unset, .unset, .unset, .unset, .unset] [(.long (p1 &&& (35184372088831 : Int64)))])) t → Steps p.tables e below (s₁.setTop (entryFrame m #[(.long p1), (.int p2)] maxLocals)) t := fun t k => pre0 t (by
    show Steps p.tables e below (s₁.setTop (mkF m 0 #[.val (.long p1), .second, .val (.int p2), .unset, .unset, .unset, .unset, .unset, .unset, .unset, .unset, .unset, .unset, .unset] [])) _
    refine XS.lloadN X0.here hx rfl (hb hby at_0) rfl ?_
    show Steps p.tables e below (s₁.setTop (mkF m 1 #[.val (.long p1), .second, .val (.int p2), .unset, .unset, .unset, .unset, .unset, .unset, .unset, .unset, .unset, .unset, .unset] [(.long p1)])) _
    refine X0.ldc2Long hx hown (mvT hZ (hw _ (List.mem_of_getElem? (i := 0) rfl))) (g := (mkF m 1 #[.val (.long p1), .second, .val (.int p2), .unset, .unset, .unset, .unset, .unset, .unset, .unset, .unset, .unset, .unset, .unset] [(.long p1)])) rfl (hb hby at_1) _ ?_
    show Steps p.tables e below (s₁.setTop (mkF m 4 #[.val (.long p1), .second, .val (.int p2), .unset, .unset, .unset, .unset, .unset, .unset, .unset, .unset, .unset, .unset, .unset] [(.long (35184372088831 : Int64)), (.long p1)])) _
    refine XS.land X0.here hx rfl (hb hby at_4) rfl ?_
    exact k)
  obtain ⟨ba, h_ba⟩ : ∃ z : Int64, z = (p1 &&& (35184372088831 : Int64)) := ⟨_, rfl⟩
  rw [← h_ba] at pre1
  rw [← h_ba] at hba
  have pre2 : ∀ t, Steps p.tables e below (s₁.setTop (mkF m 9 #[.val (.long p1), .second, .val (.int p2), .val (.long ba), .second, .unset, .unset, .unset, .unset, .unset, .unset, .unset, .unset, .unset] [(.int (p2 &&& (1 : Int32)))])) t → Steps p.tables e below (s₁.setTop (entryFrame m #[(.long p1), (.int p2)] maxLocals)) t := fun t k => pre1 t (by
    show Steps p.tables e below (s₁.setTop (mkF m 5 #[.val (.long p1), .second, .val (.int p2), .unset, .unset, .unset, .unset, .unset, .unset, .unset, .unset, .unset, .unset, .unset] [(.long ba)])) _
    refine XS.lstoreN X0.here hx rfl (hb hby at_5) rfl (l' := #[.val (.long p1), .second, .val (.int p2), .val (.long ba), .second, .unset, .unset, .unset, .unset, .unset, .unset, .unset, .unset, .unset]) rfl ?_
    show Steps p.tables e below (s₁.setTop (mkF m 6 #[.val (.long p1), .second, .val (.int p2), .val (.long ba), .second, .unset, .unset, .unset, .unset, .unset, .unset, .unset, .unset, .unset] [])) _
    refine XS.iloadN X0.here hx rfl (hb hby at_6) rfl ?_
    show Steps p.tables e below (s₁.setTop (mkF m 7 #[.val (.long p1), .second, .val (.int p2), .val (.long ba), .second, .unset, .unset, .unset, .unset, .unset, .unset, .unset, .unset, .unset] [(.int p2)])) _
    refine XS.iconst X0.here hx rfl (hb hby at_7) ?_
    show Steps p.tables e below (s₁.setTop (mkF m 8 #[.val (.long p1), .second, .val (.int p2), .val (.long ba), .second, .unset, .unset, .unset, .unset, .unset, .unset, .unset, .unset, .unset] [(.int (1 : Int32)), (.int p2)])) _
    refine XS.iand X0.here hx rfl (hb hby at_8) rfl ?_
    exact k)
  by_cases hs : (p2 &&& (1 : Int32)) = (0 : Int32)
  · have pre3 : ∀ t, Steps p.tables e below (s₁.setTop (mkF m 41 #[.val (.long p1), .second, .val (.int p2), .val (.long ba), .second, .val (.long ba), .second, .unset, .unset, .unset, .unset, .unset, .unset, .unset] [])) t → Steps p.tables e below (s₁.setTop (entryFrame m #[(.long p1), (.int p2)] maxLocals)) t := fun t k => pre2 t (by
      show Steps p.tables e below (s₁.setTop (mkF m 9 #[.val (.long p1), .second, .val (.int p2), .val (.long ba), .second, .unset, .unset, .unset, .unset, .unset, .unset, .unset, .unset, .unset] [(.int (p2 &&& (1 : Int32)))])) _
      refine XS.ifYes X0.here hx rfl (pc0 := 9) (pc' := 38) rfl (hb hby at_9) rfl ((if0 _ _).trans (teq (hs : (p2 &&& (1 : Int32)) = (0 : Int32))).1) (by decide) (by decide) ?_
      show Steps p.tables e below (s₁.setTop (mkF m 38 #[.val (.long p1), .second, .val (.int p2), .val (.long ba), .second, .unset, .unset, .unset, .unset, .unset, .unset, .unset, .unset, .unset] [])) _
      refine XS.lloadN X0.here hx rfl (hb hby at_38) rfl ?_
      show Steps p.tables e below (s₁.setTop (mkF m 39 #[.val (.long p1), .second, .val (.int p2), .val (.long ba), .second, .unset, .unset, .unset, .unset, .unset, .unset, .unset, .unset, .unset] [(.long ba)])) _
      refine XS.lstore X0.here hx rfl (hb hby at_39) rfl (l' := #[.val (.long p1), .second, .val (.int p2), .val (.long ba), .second, .val (.long ba), .second, .unset, .unset, .unset, .unset, .unset, .unset, .unset]) rfl ?_
      exact k)
    obtain ⟨wo, h_wo⟩ : ∃ z : Int64, z = ba := ⟨_, rfl⟩
    subst h_wo
    have hwo := hba
    have pre4 : ∀ t, Steps p.tables e below (s₁.setTop (mkF m 63 #[.val (.long p1), .second, .val (.int p2), .val (.long wo), .second, .val (.long wo), .second, .val (.long (wo / (32768 : Int64))), .second, .val (.long (wo % (32768 : Int64))), .second, .unset, .unset, .unset] [(.int (lcmpW (wo % (32768 : Int64)) (32764 : Int64)))])) t → Steps p.tables e below (s₁.setTop (entryFrame m #[(.long p1), (.int p2)] maxLocals)) t := fun t k => pre3 t (by
      show Steps p.tables e below (s₁.setTop (mkF m 41 #[.val (.long p1), .second, .val (.int p2), .val (.long wo), .second, .val (.long wo), .second, .unset, .unset, .unset, .unset, .unset, .unset, .unset] [])) _
      refine XS.lload X0.here hx rfl (hb hby at_41) rfl ?_
      show Steps p.tables e below (s₁.setTop (mkF m 43 #[.val (.long p1), .second, .val (.int p2), .val (.long wo), .second, .val (.long wo), .second, .unset, .unset, .unset, .unset, .unset, .unset, .unset] [(.long wo)])) _
      refine X0.ldc2Long hx hown (mvT hZ (hw _ (List.mem_of_getElem? (i := 1) rfl))) (g := (mkF m 43 #[.val (.long p1), .second, .val (.int p2), .val (.long wo), .second, .val (.long wo), .second, .unset, .unset, .unset, .unset, .unset, .unset, .unset] [(.long wo)])) rfl (hb hby at_43) _ ?_
      show Steps p.tables e below (s₁.setTop (mkF m 46 #[.val (.long p1), .second, .val (.int p2), .val (.long wo), .second, .val (.long wo), .second, .unset, .unset, .unset, .unset, .unset, .unset, .unset] [(.long (32768 : Int64)), (.long wo)])) _
      refine XS.ldiv X0.here hx rfl (hb hby at_46) rfl (by decide) ?_
      show Steps p.tables e below (s₁.setTop (mkF m 47 #[.val (.long p1), .second, .val (.int p2), .val (.long wo), .second, .val (.long wo), .second, .unset, .unset, .unset, .unset, .unset, .unset, .unset] [(.long (wo / (32768 : Int64)))])) _
      refine XS.lstore X0.here hx rfl (hb hby at_47) rfl (l' := #[.val (.long p1), .second, .val (.int p2), .val (.long wo), .second, .val (.long wo), .second, .val (.long (wo / (32768 : Int64))), .second, .unset, .unset, .unset, .unset, .unset]) rfl ?_
      show Steps p.tables e below (s₁.setTop (mkF m 49 #[.val (.long p1), .second, .val (.int p2), .val (.long wo), .second, .val (.long wo), .second, .val (.long (wo / (32768 : Int64))), .second, .unset, .unset, .unset, .unset, .unset] [])) _
      refine XS.lload X0.here hx rfl (hb hby at_49) rfl ?_
      show Steps p.tables e below (s₁.setTop (mkF m 51 #[.val (.long p1), .second, .val (.int p2), .val (.long wo), .second, .val (.long wo), .second, .val (.long (wo / (32768 : Int64))), .second, .unset, .unset, .unset, .unset, .unset] [(.long wo)])) _
      refine X0.ldc2Long hx hown (mvT hZ (hw _ (List.mem_of_getElem? (i := 1) rfl))) (g := (mkF m 51 #[.val (.long p1), .second, .val (.int p2), .val (.long wo), .second, .val (.long wo), .second, .val (.long (wo / (32768 : Int64))), .second, .unset, .unset, .unset, .unset, .unset] [(.long wo)])) rfl (hb hby at_51) _ ?_
      show Steps p.tables e below (s₁.setTop (mkF m 54 #[.val (.long p1), .second, .val (.int p2), .val (.long wo), .second, .val (.long wo), .second, .val (.long (wo / (32768 : Int64))), .second, .unset, .unset, .unset, .unset, .unset] [(.long (32768 : Int64)), (.long wo)])) _
      refine own_lremM X0 hx rfl (hb hby at_54) rfl (by decide) ?_
      show Steps p.tables e below (s₁.setTop (mkF m 55 #[.val (.long p1), .second, .val (.int p2), .val (.long wo), .second, .val (.long wo), .second, .val (.long (wo / (32768 : Int64))), .second, .unset, .unset, .unset, .unset, .unset] [(.long (wo % (32768 : Int64)))])) _
      refine XS.lstore X0.here hx rfl (hb hby at_55) rfl (l' := #[.val (.long p1), .second, .val (.int p2), .val (.long wo), .second, .val (.long wo), .second, .val (.long (wo / (32768 : Int64))), .second, .val (.long (wo % (32768 : Int64))), .second, .unset, .unset, .unset]) rfl ?_
      show Steps p.tables e below (s₁.setTop (mkF m 57 #[.val (.long p1), .second, .val (.int p2), .val (.long wo), .second, .val (.long wo), .second, .val (.long (wo / (32768 : Int64))), .second, .val (.long (wo % (32768 : Int64))), .second, .unset, .unset, .unset] [])) _
      refine XS.lload X0.here hx rfl (hb hby at_57) rfl ?_
      show Steps p.tables e below (s₁.setTop (mkF m 59 #[.val (.long p1), .second, .val (.int p2), .val (.long wo), .second, .val (.long wo), .second, .val (.long (wo / (32768 : Int64))), .second, .val (.long (wo % (32768 : Int64))), .second, .unset, .unset, .unset] [(.long (wo % (32768 : Int64)))])) _
      refine X0.ldc2Long hx hown (mvT hZ (hw _ (List.mem_of_getElem? (i := 2) rfl))) (g := (mkF m 59 #[.val (.long p1), .second, .val (.int p2), .val (.long wo), .second, .val (.long wo), .second, .val (.long (wo / (32768 : Int64))), .second, .val (.long (wo % (32768 : Int64))), .second, .unset, .unset, .unset] [(.long (wo % (32768 : Int64)))])) rfl (hb hby at_59) _ ?_
      show Steps p.tables e below (s₁.setTop (mkF m 62 #[.val (.long p1), .second, .val (.int p2), .val (.long wo), .second, .val (.long wo), .second, .val (.long (wo / (32768 : Int64))), .second, .val (.long (wo % (32768 : Int64))), .second, .unset, .unset, .unset] [(.long (32764 : Int64)), (.long (wo % (32768 : Int64)))])) _
      refine XS.lcmp X0.here hx rfl (hb hby at_62) rfl ?_
      exact k)
    by_cases hc : (wo % (32768 : Int64)) < (32764 : Int64)
    · obtain ⟨_, _, ⟨T5, L5, k5, n5⟩, -, X5, ⟨Lc5, hQ5, l5, y5, z5⟩, st5⟩ := Jvm.LawKit.callS X0 hx (y := (⟨"com/example/elderflower/elderflower/PagedWords", "indexOf", "(J)I"⟩ : MethodName)) hown (mvT hZ (hw _ (List.mem_of_getElem? (i := 4) rfl))) (mvT hZ (hw _ (List.mem_of_getElem? (i := 5) rfl))) (mvT hZ (hw _ (List.mem_of_getElem? (i := 6) rfl))) (mvT hZ (hw _ (List.mem_of_getElem? (i := 7) rfl))) (by decide) (backOf (W := 0) (rm1 l Z a0 hw [] wo  h0 n0 Z0 S_PAGE_SHIFT) hZ (hw _ (List.mem_of_getElem? (i := 7) rfl)) (hw _ (List.mem_of_getElem? (i := 6) rfl)) (by decide) (by decide)) (g := (mkF m 87 #[.val (.long p1), .second, .val (.int p2), .val (.long wo), .second, .val (.long wo), .second, .val (.long (wo / (32768 : Int64))), .second, .val (.long (wo % (32768 : Int64))), .second, .val (.long ((2 : Int64) * (wo / (32768 : Int64)))), .second, .unset] [(.long wo)])) rfl (by rw [hml]; rfl) (argsL := [(.long wo)]) (rest := []) (lenOf own_pd0 rfl) rfl (by show 2 * 0 + _ ≤ _; exact Nat.le_of_eq rfl) (hb hby at_87) (fun _ _ => ⟨rfl, e0, (by decide : 0 + 0 ≤ _), (by decide : 0 + 0 ≤ _)⟩)
      dsimp only [Pt.U, Pt.locs, Pt.cells, Pt.slots] at X5 l5 y5 z5 st5 hQ5
      subst l5 y5 z5
      obtain ⟨rfl, N5q, e5⟩ := hQ5
      have N5 := Fr.app N0 N5q
      have pre6 : ∀ t, Steps p.tables e below (T5.setTop (mkF m 106 #[.val (.long p1), .second, .val (.int p2), .val (.long wo), .second, .val (.long wo), .second, .val (.long (wo / (32768 : Int64))), .second, .val (.long (wo % (32768 : Int64))), .second, .val (.long ((2 : Int64) * (wo / (32768 : Int64)))), .second, .val (.int (own_idx wo))] [(.int (1 : Int32))])) t → Steps p.tables e below (s₁.setTop (entryFrame m #[(.long p1), (.int p2)] maxLocals)) t := fun t k => pre4 t (by
        show Steps p.tables e below (s₁.setTop (mkF m 63 #[.val (.long p1), .second, .val (.int p2), .val (.long wo), .second, .val (.long wo), .second, .val (.long (wo / (32768 : Int64))), .second, .val (.long (wo % (32768 : Int64))), .second, .unset, .unset, .unset] [(.int (lcmpW (wo % (32768 : Int64)) (32764 : Int64)))])) _
        refine XS.ifYes X0.here hx rfl (pc0 := 63) (pc' := 77) rfl (hb hby at_63) rfl ((if0 _ _).trans (tlt ((own_lclt hc) : (lcmpW (wo % (32768 : Int64)) (32764 : Int64)) < (0 : Int32))).1) (by decide) (by decide) ?_
        show Steps p.tables e below (s₁.setTop (mkF m 77 #[.val (.long p1), .second, .val (.int p2), .val (.long wo), .second, .val (.long wo), .second, .val (.long (wo / (32768 : Int64))), .second, .val (.long (wo % (32768 : Int64))), .second, .unset, .unset, .unset] [])) _
        refine X0.ldc2Long hx hown (mvT hZ (hw _ (List.mem_of_getElem? (i := 3) rfl))) (g := (mkF m 77 #[.val (.long p1), .second, .val (.int p2), .val (.long wo), .second, .val (.long wo), .second, .val (.long (wo / (32768 : Int64))), .second, .val (.long (wo % (32768 : Int64))), .second, .unset, .unset, .unset] [])) rfl (hb hby at_77) _ ?_
        show Steps p.tables e below (s₁.setTop (mkF m 80 #[.val (.long p1), .second, .val (.int p2), .val (.long wo), .second, .val (.long wo), .second, .val (.long (wo / (32768 : Int64))), .second, .val (.long (wo % (32768 : Int64))), .second, .unset, .unset, .unset] [(.long (2 : Int64))])) _
        refine XS.lload X0.here hx rfl (hb hby at_80) rfl ?_
        show Steps p.tables e below (s₁.setTop (mkF m 82 #[.val (.long p1), .second, .val (.int p2), .val (.long wo), .second, .val (.long wo), .second, .val (.long (wo / (32768 : Int64))), .second, .val (.long (wo % (32768 : Int64))), .second, .unset, .unset, .unset] [(.long (wo / (32768 : Int64))), (.long (2 : Int64))])) _
        refine XS.lmul X0.here hx rfl (hb hby at_82) rfl ?_
        show Steps p.tables e below (s₁.setTop (mkF m 83 #[.val (.long p1), .second, .val (.int p2), .val (.long wo), .second, .val (.long wo), .second, .val (.long (wo / (32768 : Int64))), .second, .val (.long (wo % (32768 : Int64))), .second, .unset, .unset, .unset] [(.long ((2 : Int64) * (wo / (32768 : Int64))))])) _
        refine XS.lstore X0.here hx rfl (hb hby at_83) rfl (l' := #[.val (.long p1), .second, .val (.int p2), .val (.long wo), .second, .val (.long wo), .second, .val (.long (wo / (32768 : Int64))), .second, .val (.long (wo % (32768 : Int64))), .second, .val (.long ((2 : Int64) * (wo / (32768 : Int64)))), .second, .unset]) rfl ?_
        show Steps p.tables e below (s₁.setTop (mkF m 85 #[.val (.long p1), .second, .val (.int p2), .val (.long wo), .second, .val (.long wo), .second, .val (.long (wo / (32768 : Int64))), .second, .val (.long (wo % (32768 : Int64))), .second, .val (.long ((2 : Int64) * (wo / (32768 : Int64)))), .second, .unset] [])) _
        refine XS.lload X0.here hx rfl (hb hby at_85) rfl ?_
        show Steps p.tables e below (s₁.setTop (mkF m 87 #[.val (.long p1), .second, .val (.int p2), .val (.long wo), .second, .val (.long wo), .second, .val (.long (wo / (32768 : Int64))), .second, .val (.long (wo % (32768 : Int64))), .second, .val (.long ((2 : Int64) * (wo / (32768 : Int64)))), .second, .unset] [(.long wo)])) _
        refine st5 _ ?_
        show Steps p.tables e below (T5.setTop (mkF m 90 #[.val (.long p1), .second, .val (.int p2), .val (.long wo), .second, .val (.long wo), .second, .val (.long (wo / (32768 : Int64))), .second, .val (.long (wo % (32768 : Int64))), .second, .val (.long ((2 : Int64) * (wo / (32768 : Int64)))), .second, .unset] [(.int (own_idx wo))])) _
        refine XS.istore X5.here hx rfl (hb hby at_90) rfl (l' := #[.val (.long p1), .second, .val (.int p2), .val (.long wo), .second, .val (.long wo), .second, .val (.long (wo / (32768 : Int64))), .second, .val (.long (wo % (32768 : Int64))), .second, .val (.long ((2 : Int64) * (wo / (32768 : Int64)))), .second, .val (.int (own_idx wo))]) rfl ?_
        show Steps p.tables e below (T5.setTop (mkF m 92 #[.val (.long p1), .second, .val (.int p2), .val (.long wo), .second, .val (.long wo), .second, .val (.long (wo / (32768 : Int64))), .second, .val (.long (wo % (32768 : Int64))), .second, .val (.long ((2 : Int64) * (wo / (32768 : Int64)))), .second, .val (.int (own_idx wo))] [])) _
        refine XS.iload X5.here hx rfl (hb hby at_92) rfl ?_
        show Steps p.tables e below (T5.setTop (mkF m 94 #[.val (.long p1), .second, .val (.int p2), .val (.long wo), .second, .val (.long wo), .second, .val (.long (wo / (32768 : Int64))), .second, .val (.long (wo % (32768 : Int64))), .second, .val (.long ((2 : Int64) * (wo / (32768 : Int64)))), .second, .val (.int (own_idx wo))] [(.int (own_idx wo))])) _
        refine XS.i2l X5.here hx rfl (hb hby at_94) rfl ?_
        show Steps p.tables e below (T5.setTop (mkF m 95 #[.val (.long p1), .second, .val (.int p2), .val (.long wo), .second, .val (.long wo), .second, .val (.long (wo / (32768 : Int64))), .second, .val (.long (wo % (32768 : Int64))), .second, .val (.long ((2 : Int64) * (wo / (32768 : Int64)))), .second, .val (.int (own_idx wo))] [(.long ((own_idx wo).toInt64))])) _
        refine XS.lload X5.here hx rfl (hb hby at_95) rfl ?_
        show Steps p.tables e below (T5.setTop (mkF m 97 #[.val (.long p1), .second, .val (.int p2), .val (.long wo), .second, .val (.long wo), .second, .val (.long (wo / (32768 : Int64))), .second, .val (.long (wo % (32768 : Int64))), .second, .val (.long ((2 : Int64) * (wo / (32768 : Int64)))), .second, .val (.int (own_idx wo))] [(.long ((2 : Int64) * (wo / (32768 : Int64)))), (.long ((own_idx wo).toInt64))])) _
        refine XS.lcmp X5.here hx rfl (hb hby at_97) rfl ?_
        show Steps p.tables e below (T5.setTop (mkF m 98 #[.val (.long p1), .second, .val (.int p2), .val (.long wo), .second, .val (.long wo), .second, .val (.long (wo / (32768 : Int64))), .second, .val (.long (wo % (32768 : Int64))), .second, .val (.long ((2 : Int64) * (wo / (32768 : Int64)))), .second, .val (.int (own_idx wo))] [(.int (lcmpW ((own_idx wo).toInt64) ((2 : Int64) * (wo / (32768 : Int64)))))])) _
        refine XS.ifNo X5.here hx rfl (hb hby at_98) rfl ((if0 _ _).trans (teq ((own_lc0 (own_even hwo.1 hwo.2 hc)) : (lcmpW ((own_idx wo).toInt64) ((2 : Int64) * (wo / (32768 : Int64)))) = (0 : Int32))).2) ?_
        show Steps p.tables e below (T5.setTop (mkF m 101 #[.val (.long p1), .second, .val (.int p2), .val (.long wo), .second, .val (.long wo), .second, .val (.long (wo / (32768 : Int64))), .second, .val (.long (wo % (32768 : Int64))), .second, .val (.long ((2 : Int64) * (wo / (32768 : Int64)))), .second, .val (.int (own_idx wo))] [])) _
        refine XS.iconst X5.here hx rfl (hb hby at_101) ?_
        show Steps p.tables e below (T5.setTop (mkF m 102 #[.val (.long p1), .second, .val (.int p2), .val (.long wo), .second, .val (.long wo), .second, .val (.long (wo / (32768 : Int64))), .second, .val (.long (wo % (32768 : Int64))), .second, .val (.long ((2 : Int64) * (wo / (32768 : Int64)))), .second, .val (.int (own_idx wo))] [(.int (1 : Int32))])) _
        refine XS.goto X5.here hx rfl (pc0 := 102) (pc' := 106) rfl (hb hby at_102) (by decide) (by decide) ?_
        exact k)
      obtain ⟨fs, hr, hrun, hended, hW, hsame⟩ := X5.leave (v := some (.int (nar .boolean (1 : Int32)))) (fun h => by rw [Bd.returns] at h; cases h)
      refine ⟨_, _, pre6 _ ?_, hrun, hended, _, _, rfl, ?_, ⟨_, rfl⟩, hW, hsame.mono (by decide) (by decide)⟩
      · show Steps p.tables e below (T5.setTop (mkF m 106 #[.val (.long p1), .second, .val (.int p2), .val (.long wo), .second, .val (.long wo), .second, .val (.long (wo / (32768 : Int64))), .second, .val (.long (wo % (32768 : Int64))), .second, .val (.long ((2 : Int64) * (wo / (32768 : Int64)))), .second, .val (.int (own_idx wo))] [(.int (1 : Int32))])) _
        exact retN X5 hx (t := .boolean) Bd.returns (by simp) (hb hby at_106) hr
      · show QL n0 _ T5.heap _
        rw [e5]
        exact ⟨rfl, N5⟩
    · obtain ⟨_, _, ⟨T7, L7, k7, n7⟩, -, X7, ⟨Lc7, hQ7, l7, y7, z7⟩, st7⟩ := Jvm.LawKit.callS X0 hx (y := (⟨"com/example/elderflower/elderflower/PagedWords", "indexOf", "(J)I"⟩ : MethodName)) hown (mvT hZ (hw _ (List.mem_of_getElem? (i := 4) rfl))) (mvT hZ (hw _ (List.mem_of_getElem? (i := 5) rfl))) (mvT hZ (hw _ (List.mem_of_getElem? (i := 6) rfl))) (mvT hZ (hw _ (List.mem_of_getElem? (i := 7) rfl))) (by decide) (backOf (W := 0) (rm1 l Z a0 hw [] wo  h0 n0 Z0 S_PAGE_SHIFT) hZ (hw _ (List.mem_of_getElem? (i := 7) rfl)) (hw _ (List.mem_of_getElem? (i := 6) rfl)) (by decide) (by decide)) (g := (mkF m 87 #[.val (.long p1), .second, .val (.int p2), .val (.long wo), .second, .val (.long wo), .second, .val (.long (wo / (32768 : Int64))), .second, .val (.long (wo % (32768 : Int64))), .second, .val (.long (((2 : Int64) * (wo / (32768 : Int64))) + (1 : Int64))), .second, .unset] [(.long wo)])) rfl (by rw [hml]; rfl) (argsL := [(.long wo)]) (rest := []) (lenOf own_pd0 rfl) rfl (by show 2 * 0 + _ ≤ _; exact Nat.le_of_eq rfl) (hb hby at_87) (fun _ _ => ⟨rfl, e0, (by decide : 0 + 0 ≤ _), (by decide : 0 + 0 ≤ _)⟩)
      dsimp only [Pt.U, Pt.locs, Pt.cells, Pt.slots] at X7 l7 y7 z7 st7 hQ7
      subst l7 y7 z7
      obtain ⟨rfl, N7q, e7⟩ := hQ7
      have N7 := Fr.app N0 N7q
      have pre8 : ∀ t, Steps p.tables e below (T7.setTop (mkF m 106 #[.val (.long p1), .second, .val (.int p2), .val (.long wo), .second, .val (.long wo), .second, .val (.long (wo / (32768 : Int64))), .second, .val (.long (wo % (32768 : Int64))), .second, .val (.long (((2 : Int64) * (wo / (32768 : Int64))) + (1 : Int64))), .second, .val (.int (own_idx wo))] [(.int (1 : Int32))])) t → Steps p.tables e below (s₁.setTop (entryFrame m #[(.long p1), (.int p2)] maxLocals)) t := fun t k => pre4 t (by
        show Steps p.tables e below (s₁.setTop (mkF m 63 #[.val (.long p1), .second, .val (.int p2), .val (.long wo), .second, .val (.long wo), .second, .val (.long (wo / (32768 : Int64))), .second, .val (.long (wo % (32768 : Int64))), .second, .unset, .unset, .unset] [(.int (lcmpW (wo % (32768 : Int64)) (32764 : Int64)))])) _
        refine XS.ifNo X0.here hx rfl (hb hby at_63) rfl ((if0 _ _).trans (flt ((own_lcge hc) : ¬ ((lcmpW (wo % (32768 : Int64)) (32764 : Int64)) < (0 : Int32)))).1) ?_
        show Steps p.tables e below (s₁.setTop (mkF m 66 #[.val (.long p1), .second, .val (.int p2), .val (.long wo), .second, .val (.long wo), .second, .val (.long (wo / (32768 : Int64))), .second, .val (.long (wo % (32768 : Int64))), .second, .unset, .unset, .unset] [])) _
        refine X0.ldc2Long hx hown (mvT hZ (hw _ (List.mem_of_getElem? (i := 3) rfl))) (g := (mkF m 66 #[.val (.long p1), .second, .val (.int p2), .val (.long wo), .second, .val (.long wo), .second, .val (.long (wo / (32768 : Int64))), .second, .val (.long (wo % (32768 : Int64))), .second, .unset, .unset, .unset] [])) rfl (hb hby at_66) _ ?_
        show Steps p.tables e below (s₁.setTop (mkF m 69 #[.val (.long p1), .second, .val (.int p2), .val (.long wo), .second, .val (.long wo), .second, .val (.long (wo / (32768 : Int64))), .second, .val (.long (wo % (32768 : Int64))), .second, .unset, .unset, .unset] [(.long (2 : Int64))])) _
        refine XS.lload X0.here hx rfl (hb hby at_69) rfl ?_
        show Steps p.tables e below (s₁.setTop (mkF m 71 #[.val (.long p1), .second, .val (.int p2), .val (.long wo), .second, .val (.long wo), .second, .val (.long (wo / (32768 : Int64))), .second, .val (.long (wo % (32768 : Int64))), .second, .unset, .unset, .unset] [(.long (wo / (32768 : Int64))), (.long (2 : Int64))])) _
        refine XS.lmul X0.here hx rfl (hb hby at_71) rfl ?_
        show Steps p.tables e below (s₁.setTop (mkF m 72 #[.val (.long p1), .second, .val (.int p2), .val (.long wo), .second, .val (.long wo), .second, .val (.long (wo / (32768 : Int64))), .second, .val (.long (wo % (32768 : Int64))), .second, .unset, .unset, .unset] [(.long ((2 : Int64) * (wo / (32768 : Int64))))])) _
        refine XS.lconst X0.here hx rfl (hb hby at_72) ?_
        show Steps p.tables e below (s₁.setTop (mkF m 73 #[.val (.long p1), .second, .val (.int p2), .val (.long wo), .second, .val (.long wo), .second, .val (.long (wo / (32768 : Int64))), .second, .val (.long (wo % (32768 : Int64))), .second, .unset, .unset, .unset] [(.long (1 : Int64)), (.long ((2 : Int64) * (wo / (32768 : Int64))))])) _
        refine XS.ladd X0.here hx rfl (hb hby at_73) rfl ?_
        show Steps p.tables e below (s₁.setTop (mkF m 74 #[.val (.long p1), .second, .val (.int p2), .val (.long wo), .second, .val (.long wo), .second, .val (.long (wo / (32768 : Int64))), .second, .val (.long (wo % (32768 : Int64))), .second, .unset, .unset, .unset] [(.long (((2 : Int64) * (wo / (32768 : Int64))) + (1 : Int64)))])) _
        refine XS.goto X0.here hx rfl (pc0 := 74) (pc' := 83) rfl (hb hby at_74) (by decide) (by decide) ?_
        show Steps p.tables e below (s₁.setTop (mkF m 83 #[.val (.long p1), .second, .val (.int p2), .val (.long wo), .second, .val (.long wo), .second, .val (.long (wo / (32768 : Int64))), .second, .val (.long (wo % (32768 : Int64))), .second, .unset, .unset, .unset] [(.long (((2 : Int64) * (wo / (32768 : Int64))) + (1 : Int64)))])) _
        refine XS.lstore X0.here hx rfl (hb hby at_83) rfl (l' := #[.val (.long p1), .second, .val (.int p2), .val (.long wo), .second, .val (.long wo), .second, .val (.long (wo / (32768 : Int64))), .second, .val (.long (wo % (32768 : Int64))), .second, .val (.long (((2 : Int64) * (wo / (32768 : Int64))) + (1 : Int64))), .second, .unset]) rfl ?_
        show Steps p.tables e below (s₁.setTop (mkF m 85 #[.val (.long p1), .second, .val (.int p2), .val (.long wo), .second, .val (.long wo), .second, .val (.long (wo / (32768 : Int64))), .second, .val (.long (wo % (32768 : Int64))), .second, .val (.long (((2 : Int64) * (wo / (32768 : Int64))) + (1 : Int64))), .second, .unset] [])) _
        refine XS.lload X0.here hx rfl (hb hby at_85) rfl ?_
        show Steps p.tables e below (s₁.setTop (mkF m 87 #[.val (.long p1), .second, .val (.int p2), .val (.long wo), .second, .val (.long wo), .second, .val (.long (wo / (32768 : Int64))), .second, .val (.long (wo % (32768 : Int64))), .second, .val (.long (((2 : Int64) * (wo / (32768 : Int64))) + (1 : Int64))), .second, .unset] [(.long wo)])) _
        refine st7 _ ?_
        show Steps p.tables e below (T7.setTop (mkF m 90 #[.val (.long p1), .second, .val (.int p2), .val (.long wo), .second, .val (.long wo), .second, .val (.long (wo / (32768 : Int64))), .second, .val (.long (wo % (32768 : Int64))), .second, .val (.long (((2 : Int64) * (wo / (32768 : Int64))) + (1 : Int64))), .second, .unset] [(.int (own_idx wo))])) _
        refine XS.istore X7.here hx rfl (hb hby at_90) rfl (l' := #[.val (.long p1), .second, .val (.int p2), .val (.long wo), .second, .val (.long wo), .second, .val (.long (wo / (32768 : Int64))), .second, .val (.long (wo % (32768 : Int64))), .second, .val (.long (((2 : Int64) * (wo / (32768 : Int64))) + (1 : Int64))), .second, .val (.int (own_idx wo))]) rfl ?_
        show Steps p.tables e below (T7.setTop (mkF m 92 #[.val (.long p1), .second, .val (.int p2), .val (.long wo), .second, .val (.long wo), .second, .val (.long (wo / (32768 : Int64))), .second, .val (.long (wo % (32768 : Int64))), .second, .val (.long (((2 : Int64) * (wo / (32768 : Int64))) + (1 : Int64))), .second, .val (.int (own_idx wo))] [])) _
        refine XS.iload X7.here hx rfl (hb hby at_92) rfl ?_
        show Steps p.tables e below (T7.setTop (mkF m 94 #[.val (.long p1), .second, .val (.int p2), .val (.long wo), .second, .val (.long wo), .second, .val (.long (wo / (32768 : Int64))), .second, .val (.long (wo % (32768 : Int64))), .second, .val (.long (((2 : Int64) * (wo / (32768 : Int64))) + (1 : Int64))), .second, .val (.int (own_idx wo))] [(.int (own_idx wo))])) _
        refine XS.i2l X7.here hx rfl (hb hby at_94) rfl ?_
        show Steps p.tables e below (T7.setTop (mkF m 95 #[.val (.long p1), .second, .val (.int p2), .val (.long wo), .second, .val (.long wo), .second, .val (.long (wo / (32768 : Int64))), .second, .val (.long (wo % (32768 : Int64))), .second, .val (.long (((2 : Int64) * (wo / (32768 : Int64))) + (1 : Int64))), .second, .val (.int (own_idx wo))] [(.long ((own_idx wo).toInt64))])) _
        refine XS.lload X7.here hx rfl (hb hby at_95) rfl ?_
        show Steps p.tables e below (T7.setTop (mkF m 97 #[.val (.long p1), .second, .val (.int p2), .val (.long wo), .second, .val (.long wo), .second, .val (.long (wo / (32768 : Int64))), .second, .val (.long (wo % (32768 : Int64))), .second, .val (.long (((2 : Int64) * (wo / (32768 : Int64))) + (1 : Int64))), .second, .val (.int (own_idx wo))] [(.long (((2 : Int64) * (wo / (32768 : Int64))) + (1 : Int64))), (.long ((own_idx wo).toInt64))])) _
        refine XS.lcmp X7.here hx rfl (hb hby at_97) rfl ?_
        show Steps p.tables e below (T7.setTop (mkF m 98 #[.val (.long p1), .second, .val (.int p2), .val (.long wo), .second, .val (.long wo), .second, .val (.long (wo / (32768 : Int64))), .second, .val (.long (wo % (32768 : Int64))), .second, .val (.long (((2 : Int64) * (wo / (32768 : Int64))) + (1 : Int64))), .second, .val (.int (own_idx wo))] [(.int (lcmpW ((own_idx wo).toInt64) (((2 : Int64) * (wo / (32768 : Int64))) + (1 : Int64))))])) _
        refine XS.ifNo X7.here hx rfl (hb hby at_98) rfl ((if0 _ _).trans (teq ((own_lc0 (own_odd hwo.1 hwo.2 hc)) : (lcmpW ((own_idx wo).toInt64) (((2 : Int64) * (wo / (32768 : Int64))) + (1 : Int64))) = (0 : Int32))).2) ?_
        show Steps p.tables e below (T7.setTop (mkF m 101 #[.val (.long p1), .second, .val (.int p2), .val (.long wo), .second, .val (.long wo), .second, .val (.long (wo / (32768 : Int64))), .second, .val (.long (wo % (32768 : Int64))), .second, .val (.long (((2 : Int64) * (wo / (32768 : Int64))) + (1 : Int64))), .second, .val (.int (own_idx wo))] [])) _
        refine XS.iconst X7.here hx rfl (hb hby at_101) ?_
        show Steps p.tables e below (T7.setTop (mkF m 102 #[.val (.long p1), .second, .val (.int p2), .val (.long wo), .second, .val (.long wo), .second, .val (.long (wo / (32768 : Int64))), .second, .val (.long (wo % (32768 : Int64))), .second, .val (.long (((2 : Int64) * (wo / (32768 : Int64))) + (1 : Int64))), .second, .val (.int (own_idx wo))] [(.int (1 : Int32))])) _
        refine XS.goto X7.here hx rfl (pc0 := 102) (pc' := 106) rfl (hb hby at_102) (by decide) (by decide) ?_
        exact k)
      obtain ⟨fs, hr, hrun, hended, hW, hsame⟩ := X7.leave (v := some (.int (nar .boolean (1 : Int32)))) (fun h => by rw [Bd.returns] at h; cases h)
      refine ⟨_, _, pre8 _ ?_, hrun, hended, _, _, rfl, ?_, ⟨_, rfl⟩, hW, hsame.mono (by decide) (by decide)⟩
      · show Steps p.tables e below (T7.setTop (mkF m 106 #[.val (.long p1), .second, .val (.int p2), .val (.long wo), .second, .val (.long wo), .second, .val (.long (wo / (32768 : Int64))), .second, .val (.long (wo % (32768 : Int64))), .second, .val (.long (((2 : Int64) * (wo / (32768 : Int64))) + (1 : Int64))), .second, .val (.int (own_idx wo))] [(.int (1 : Int32))])) _
        exact retN X7 hx (t := .boolean) Bd.returns (by simp) (hb hby at_106) hr
      · show QL n0 _ T7.heap _
        rw [e7]
        exact ⟨rfl, N7⟩
  · have hwo := own_edge ba hba.1 hba.2 (p2 >>> ((1 : Int32) &&& 31))
    have pre9 : ∀ t, Steps p.tables e below (s₁.setTop (mkF m 33 #[.val (.long p1), .second, .val (.int p2), .val (.long ba), .second, .unset, .unset, .unset, .unset, .unset, .unset, .unset, .unset, .unset] [(.long ((((ba / (32768 : Int64)) * (32768 : Int64)) + (32760 : Int64)) + (((p2 >>> ((1 : Int32) &&& 31)) &&& (7 : Int32)).toInt64)))])) t → Steps p.tables e below (s₁.setTop (entryFrame m #[(.long p1), (.int p2)] maxLocals)) t := fun t k => pre2 t (by
      show Steps p.tables e below (s₁.setTop (mkF m 9 #[.val (.long p1), .second, .val (.int p2), .val (.long ba), .second, .unset, .unset, .unset, .unset, .unset, .unset, .unset, .unset, .unset] [(.int (p2 &&& (1 : Int32)))])) _
      refine XS.ifNo X0.here hx rfl (hb hby at_9) rfl ((if0 _ _).trans (feq (hs : ¬ ((p2 &&& (1 : Int32)) = (0 : Int32)))).1) ?_
      show Steps p.tables e below (s₁.setTop (mkF m 12 #[.val (.long p1), .second, .val (.int p2), .val (.long ba), .second, .unset, .unset, .unset, .unset, .unset, .unset, .unset, .unset, .unset] [])) _
      refine XS.lloadN X0.here hx rfl (hb hby at_12) rfl ?_
      show Steps p.tables e below (s₁.setTop (mkF m 13 #[.val (.long p1), .second, .val (.int p2), .val (.long ba), .second, .unset, .unset, .unset, .unset, .unset, .unset, .unset, .unset, .unset] [(.long ba)])) _
      refine X0.ldc2Long hx hown (mvT hZ (hw _ (List.mem_of_getElem? (i := 1) rfl))) (g := (mkF m 13 #[.val (.long p1), .second, .val (.int p2), .val (.long ba), .second, .unset, .unset, .unset, .unset, .unset, .unset, .unset, .unset, .unset] [(.long ba)])) rfl (hb hby at_13) _ ?_
      show Steps p.tables e below (s₁.setTop (mkF m 16 #[.val (.long p1), .second, .val (.int p2), .val (.long ba), .second, .unset, .unset, .unset, .unset, .unset, .unset, .unset, .unset, .unset] [(.long (32768 : Int64)), (.long ba)])) _
      refine XS.ldiv X0.here hx rfl (hb hby at_16) rfl (by decide) ?_
      show Steps p.tables e below (s₁.setTop (mkF m 17 #[.val (.long p1), .second, .val (.int p2), .val (.long ba), .second, .unset, .unset, .unset, .unset, .unset, .unset, .unset, .unset, .unset] [(.long (ba / (32768 : Int64)))])) _
      refine X0.ldc2Long hx hown (mvT hZ (hw _ (List.mem_of_getElem? (i := 1) rfl))) (g := (mkF m 17 #[.val (.long p1), .second, .val (.int p2), .val (.long ba), .second, .unset, .unset, .unset, .unset, .unset, .unset, .unset, .unset, .unset] [(.long (ba / (32768 : Int64)))])) rfl (hb hby at_17) _ ?_
      show Steps p.tables e below (s₁.setTop (mkF m 20 #[.val (.long p1), .second, .val (.int p2), .val (.long ba), .second, .unset, .unset, .unset, .unset, .unset, .unset, .unset, .unset, .unset] [(.long (32768 : Int64)), (.long (ba / (32768 : Int64)))])) _
      refine XS.lmul X0.here hx rfl (hb hby at_20) rfl ?_
      show Steps p.tables e below (s₁.setTop (mkF m 21 #[.val (.long p1), .second, .val (.int p2), .val (.long ba), .second, .unset, .unset, .unset, .unset, .unset, .unset, .unset, .unset, .unset] [(.long ((ba / (32768 : Int64)) * (32768 : Int64)))])) _
      refine X0.ldc2Long hx hown (mvT hZ (hw _ (List.mem_of_getElem? (i := 10) rfl))) (g := (mkF m 21 #[.val (.long p1), .second, .val (.int p2), .val (.long ba), .second, .unset, .unset, .unset, .unset, .unset, .unset, .unset, .unset, .unset] [(.long ((ba / (32768 : Int64)) * (32768 : Int64)))])) rfl (hb hby at_21) _ ?_
      show Steps p.tables e below (s₁.setTop (mkF m 24 #[.val (.long p1), .second, .val (.int p2), .val (.long ba), .second, .unset, .unset, .unset, .unset, .unset, .unset, .unset, .unset, .unset] [(.long (32760 : Int64)), (.long ((ba / (32768 : Int64)) * (32768 : Int64)))])) _
      refine XS.ladd X0.here hx rfl (hb hby at_24) rfl ?_
      show Steps p.tables e below (s₁.setTop (mkF m 25 #[.val (.long p1), .second, .val (.int p2), .val (.long ba), .second, .unset, .unset, .unset, .unset, .unset, .unset, .unset, .unset, .unset] [(.long (((ba / (32768 : Int64)) * (32768 : Int64)) + (32760 : Int64)))])) _
      refine XS.iloadN X0.here hx rfl (hb hby at_25) rfl ?_
      show Steps p.tables e below (s₁.setTop (mkF m 26 #[.val (.long p1), .second, .val (.int p2), .val (.long ba), .second, .unset, .unset, .unset, .unset, .unset, .unset, .unset, .unset, .unset] [(.int p2), (.long (((ba / (32768 : Int64)) * (32768 : Int64)) + (32760 : Int64)))])) _
      refine XS.iconst X0.here hx rfl (hb hby at_26) ?_
      show Steps p.tables e below (s₁.setTop (mkF m 27 #[.val (.long p1), .second, .val (.int p2), .val (.long ba), .second, .unset, .unset, .unset, .unset, .unset, .unset, .unset, .unset, .unset] [(.int (1 : Int32)), (.int p2), (.long (((ba / (32768 : Int64)) * (32768 : Int64)) + (32760 : Int64)))])) _
      refine XS.ishr X0.here hx rfl (hb hby at_27) rfl ?_
      show Steps p.tables e below (s₁.setTop (mkF m 28 #[.val (.long p1), .second, .val (.int p2), .val (.long ba), .second, .unset, .unset, .unset, .unset, .unset, .unset, .unset, .unset, .unset] [(.int (p2 >>> ((1 : Int32) &&& 31))), (.long (((ba / (32768 : Int64)) * (32768 : Int64)) + (32760 : Int64)))])) _
      refine XS.bipush X0.here hx rfl (hb hby at_28) ?_
      show Steps p.tables e below (s₁.setTop (mkF m 30 #[.val (.long p1), .second, .val (.int p2), .val (.long ba), .second, .unset, .unset, .unset, .unset, .unset, .unset, .unset, .unset, .unset] [(.int (7 : Int32)), (.int (p2 >>> ((1 : Int32) &&& 31))), (.long (((ba / (32768 : Int64)) * (32768 : Int64)) + (32760 : Int64)))])) _
      refine XS.iand X0.here hx rfl (hb hby at_30) rfl ?_
      show Steps p.tables e below (s₁.setTop (mkF m 31 #[.val (.long p1), .second, .val (.int p2), .val (.long ba), .second, .unset, .unset, .unset, .unset, .unset, .unset, .unset, .unset, .unset] [(.int ((p2 >>> ((1 : Int32) &&& 31)) &&& (7 : Int32))), (.long (((ba / (32768 : Int64)) * (32768 : Int64)) + (32760 : Int64)))])) _
      refine XS.i2l X0.here hx rfl (hb hby at_31) rfl ?_
      show Steps p.tables e below (s₁.setTop (mkF m 32 #[.val (.long p1), .second, .val (.int p2), .val (.long ba), .second, .unset, .unset, .unset, .unset, .unset, .unset, .unset, .unset, .unset] [(.long (((p2 >>> ((1 : Int32) &&& 31)) &&& (7 : Int32)).toInt64)), (.long (((ba / (32768 : Int64)) * (32768 : Int64)) + (32760 : Int64)))])) _
      refine XS.ladd X0.here hx rfl (hb hby at_32) rfl ?_
      exact k)
    obtain ⟨wo, h_wo⟩ : ∃ z : Int64, z = ((((ba / (32768 : Int64)) * (32768 : Int64)) + (32760 : Int64)) + (((p2 >>> ((1 : Int32) &&& 31)) &&& (7 : Int32)).toInt64)) := ⟨_, rfl⟩
    rw [← h_wo] at pre9
    rw [← h_wo] at hwo
    have pre10 : ∀ t, Steps p.tables e below (s₁.setTop (mkF m 63 #[.val (.long p1), .second, .val (.int p2), .val (.long ba), .second, .val (.long wo), .second, .val (.long (wo / (32768 : Int64))), .second, .val (.long (wo % (32768 : Int64))), .second, .unset, .unset, .unset] [(.int (lcmpW (wo % (32768 : Int64)) (32764 : Int64)))])) t → Steps p.tables e below (s₁.setTop (entryFrame m #[(.long p1), (.int p2)] maxLocals)) t := fun t k => pre9 t (by
      show Steps p.tables e below (s₁.setTop (mkF m 33 #[.val (.long p1), .second, .val (.int p2), .val (.long ba), .second, .unset, .unset, .unset, .unset, .unset, .unset, .unset, .unset, .unset] [(.long wo)])) _
      refine XS.lstore X0.here hx rfl (hb hby at_33) rfl (l' := #[.val (.long p1), .second, .val (.int p2), .val (.long ba), .second, .val (.long wo), .second, .unset, .unset, .unset, .unset, .unset, .unset, .unset]) rfl ?_
      show Steps p.tables e below (s₁.setTop (mkF m 35 #[.val (.long p1), .second, .val (.int p2), .val (.long ba), .second, .val (.long wo), .second, .unset, .unset, .unset, .unset, .unset, .unset, .unset] [])) _
      refine XS.goto X0.here hx rfl (pc0 := 35) (pc' := 41) rfl (hb hby at_35) (by decide) (by decide) ?_
      show Steps p.tables e below (s₁.setTop (mkF m 41 #[.val (.long p1), .second, .val (.int p2), .val (.long ba), .second, .val (.long wo), .second, .unset, .unset, .unset, .unset, .unset, .unset, .unset] [])) _
      refine XS.lload X0.here hx rfl (hb hby at_41) rfl ?_
      show Steps p.tables e below (s₁.setTop (mkF m 43 #[.val (.long p1), .second, .val (.int p2), .val (.long ba), .second, .val (.long wo), .second, .unset, .unset, .unset, .unset, .unset, .unset, .unset] [(.long wo)])) _
      refine X0.ldc2Long hx hown (mvT hZ (hw _ (List.mem_of_getElem? (i := 1) rfl))) (g := (mkF m 43 #[.val (.long p1), .second, .val (.int p2), .val (.long ba), .second, .val (.long wo), .second, .unset, .unset, .unset, .unset, .unset, .unset, .unset] [(.long wo)])) rfl (hb hby at_43) _ ?_
      show Steps p.tables e below (s₁.setTop (mkF m 46 #[.val (.long p1), .second, .val (.int p2), .val (.long ba), .second, .val (.long wo), .second, .unset, .unset, .unset, .unset, .unset, .unset, .unset] [(.long (32768 : Int64)), (.long wo)])) _
      refine XS.ldiv X0.here hx rfl (hb hby at_46) rfl (by decide) ?_
      show Steps p.tables e below (s₁.setTop (mkF m 47 #[.val (.long p1), .second, .val (.int p2), .val (.long ba), .second, .val (.long wo), .second, .unset, .unset, .unset, .unset, .unset, .unset, .unset] [(.long (wo / (32768 : Int64)))])) _
      refine XS.lstore X0.here hx rfl (hb hby at_47) rfl (l' := #[.val (.long p1), .second, .val (.int p2), .val (.long ba), .second, .val (.long wo), .second, .val (.long (wo / (32768 : Int64))), .second, .unset, .unset, .unset, .unset, .unset]) rfl ?_
      show Steps p.tables e below (s₁.setTop (mkF m 49 #[.val (.long p1), .second, .val (.int p2), .val (.long ba), .second, .val (.long wo), .second, .val (.long (wo / (32768 : Int64))), .second, .unset, .unset, .unset, .unset, .unset] [])) _
      refine XS.lload X0.here hx rfl (hb hby at_49) rfl ?_
      show Steps p.tables e below (s₁.setTop (mkF m 51 #[.val (.long p1), .second, .val (.int p2), .val (.long ba), .second, .val (.long wo), .second, .val (.long (wo / (32768 : Int64))), .second, .unset, .unset, .unset, .unset, .unset] [(.long wo)])) _
      refine X0.ldc2Long hx hown (mvT hZ (hw _ (List.mem_of_getElem? (i := 1) rfl))) (g := (mkF m 51 #[.val (.long p1), .second, .val (.int p2), .val (.long ba), .second, .val (.long wo), .second, .val (.long (wo / (32768 : Int64))), .second, .unset, .unset, .unset, .unset, .unset] [(.long wo)])) rfl (hb hby at_51) _ ?_
      show Steps p.tables e below (s₁.setTop (mkF m 54 #[.val (.long p1), .second, .val (.int p2), .val (.long ba), .second, .val (.long wo), .second, .val (.long (wo / (32768 : Int64))), .second, .unset, .unset, .unset, .unset, .unset] [(.long (32768 : Int64)), (.long wo)])) _
      refine own_lremM X0 hx rfl (hb hby at_54) rfl (by decide) ?_
      show Steps p.tables e below (s₁.setTop (mkF m 55 #[.val (.long p1), .second, .val (.int p2), .val (.long ba), .second, .val (.long wo), .second, .val (.long (wo / (32768 : Int64))), .second, .unset, .unset, .unset, .unset, .unset] [(.long (wo % (32768 : Int64)))])) _
      refine XS.lstore X0.here hx rfl (hb hby at_55) rfl (l' := #[.val (.long p1), .second, .val (.int p2), .val (.long ba), .second, .val (.long wo), .second, .val (.long (wo / (32768 : Int64))), .second, .val (.long (wo % (32768 : Int64))), .second, .unset, .unset, .unset]) rfl ?_
      show Steps p.tables e below (s₁.setTop (mkF m 57 #[.val (.long p1), .second, .val (.int p2), .val (.long ba), .second, .val (.long wo), .second, .val (.long (wo / (32768 : Int64))), .second, .val (.long (wo % (32768 : Int64))), .second, .unset, .unset, .unset] [])) _
      refine XS.lload X0.here hx rfl (hb hby at_57) rfl ?_
      show Steps p.tables e below (s₁.setTop (mkF m 59 #[.val (.long p1), .second, .val (.int p2), .val (.long ba), .second, .val (.long wo), .second, .val (.long (wo / (32768 : Int64))), .second, .val (.long (wo % (32768 : Int64))), .second, .unset, .unset, .unset] [(.long (wo % (32768 : Int64)))])) _
      refine X0.ldc2Long hx hown (mvT hZ (hw _ (List.mem_of_getElem? (i := 2) rfl))) (g := (mkF m 59 #[.val (.long p1), .second, .val (.int p2), .val (.long ba), .second, .val (.long wo), .second, .val (.long (wo / (32768 : Int64))), .second, .val (.long (wo % (32768 : Int64))), .second, .unset, .unset, .unset] [(.long (wo % (32768 : Int64)))])) rfl (hb hby at_59) _ ?_
      show Steps p.tables e below (s₁.setTop (mkF m 62 #[.val (.long p1), .second, .val (.int p2), .val (.long ba), .second, .val (.long wo), .second, .val (.long (wo / (32768 : Int64))), .second, .val (.long (wo % (32768 : Int64))), .second, .unset, .unset, .unset] [(.long (32764 : Int64)), (.long (wo % (32768 : Int64)))])) _
      refine XS.lcmp X0.here hx rfl (hb hby at_62) rfl ?_
      exact k)
    by_cases hc : (wo % (32768 : Int64)) < (32764 : Int64)
    · obtain ⟨_, _, ⟨T11, L11, k11, n11⟩, -, X11, ⟨Lc11, hQ11, l11, y11, z11⟩, st11⟩ := Jvm.LawKit.callS X0 hx (y := (⟨"com/example/elderflower/elderflower/PagedWords", "indexOf", "(J)I"⟩ : MethodName)) hown (mvT hZ (hw _ (List.mem_of_getElem? (i := 4) rfl))) (mvT hZ (hw _ (List.mem_of_getElem? (i := 5) rfl))) (mvT hZ (hw _ (List.mem_of_getElem? (i := 6) rfl))) (mvT hZ (hw _ (List.mem_of_getElem? (i := 7) rfl))) (by decide) (backOf (W := 0) (rm1 l Z a0 hw [] wo  h0 n0 Z0 S_PAGE_SHIFT) hZ (hw _ (List.mem_of_getElem? (i := 7) rfl)) (hw _ (List.mem_of_getElem? (i := 6) rfl)) (by decide) (by decide)) (g := (mkF m 87 #[.val (.long p1), .second, .val (.int p2), .val (.long ba), .second, .val (.long wo), .second, .val (.long (wo / (32768 : Int64))), .second, .val (.long (wo % (32768 : Int64))), .second, .val (.long ((2 : Int64) * (wo / (32768 : Int64)))), .second, .unset] [(.long wo)])) rfl (by rw [hml]; rfl) (argsL := [(.long wo)]) (rest := []) (lenOf own_pd0 rfl) rfl (by show 2 * 0 + _ ≤ _; exact Nat.le_of_eq rfl) (hb hby at_87) (fun _ _ => ⟨rfl, e0, (by decide : 0 + 0 ≤ _), (by decide : 0 + 0 ≤ _)⟩)
      dsimp only [Pt.U, Pt.locs, Pt.cells, Pt.slots] at X11 l11 y11 z11 st11 hQ11
      subst l11 y11 z11
      obtain ⟨rfl, N11q, e11⟩ := hQ11
      have N11 := Fr.app N0 N11q
      have pre12 : ∀ t, Steps p.tables e below (T11.setTop (mkF m 106 #[.val (.long p1), .second, .val (.int p2), .val (.long ba), .second, .val (.long wo), .second, .val (.long (wo / (32768 : Int64))), .second, .val (.long (wo % (32768 : Int64))), .second, .val (.long ((2 : Int64) * (wo / (32768 : Int64)))), .second, .val (.int (own_idx wo))] [(.int (1 : Int32))])) t → Steps p.tables e below (s₁.setTop (entryFrame m #[(.long p1), (.int p2)] maxLocals)) t := fun t k => pre10 t (by
        show Steps p.tables e below (s₁.setTop (mkF m 63 #[.val (.long p1), .second, .val (.int p2), .val (.long ba), .second, .val (.long wo), .second, .val (.long (wo / (32768 : Int64))), .second, .val (.long (wo % (32768 : Int64))), .second, .unset, .unset, .unset] [(.int (lcmpW (wo % (32768 : Int64)) (32764 : Int64)))])) _
        refine XS.ifYes X0.here hx rfl (pc0 := 63) (pc' := 77) rfl (hb hby at_63) rfl ((if0 _ _).trans (tlt ((own_lclt hc) : (lcmpW (wo % (32768 : Int64)) (32764 : Int64)) < (0 : Int32))).1) (by decide) (by decide) ?_
        show Steps p.tables e below (s₁.setTop (mkF m 77 #[.val (.long p1), .second, .val (.int p2), .val (.long ba), .second, .val (.long wo), .second, .val (.long (wo / (32768 : Int64))), .second, .val (.long (wo % (32768 : Int64))), .second, .unset, .unset, .unset] [])) _
        refine X0.ldc2Long hx hown (mvT hZ (hw _ (List.mem_of_getElem? (i := 3) rfl))) (g := (mkF m 77 #[.val (.long p1), .second, .val (.int p2), .val (.long ba), .second, .val (.long wo), .second, .val (.long (wo / (32768 : Int64))), .second, .val (.long (wo % (32768 : Int64))), .second, .unset, .unset, .unset] [])) rfl (hb hby at_77) _ ?_
        show Steps p.tables e below (s₁.setTop (mkF m 80 #[.val (.long p1), .second, .val (.int p2), .val (.long ba), .second, .val (.long wo), .second, .val (.long (wo / (32768 : Int64))), .second, .val (.long (wo % (32768 : Int64))), .second, .unset, .unset, .unset] [(.long (2 : Int64))])) _
        refine XS.lload X0.here hx rfl (hb hby at_80) rfl ?_
        show Steps p.tables e below (s₁.setTop (mkF m 82 #[.val (.long p1), .second, .val (.int p2), .val (.long ba), .second, .val (.long wo), .second, .val (.long (wo / (32768 : Int64))), .second, .val (.long (wo % (32768 : Int64))), .second, .unset, .unset, .unset] [(.long (wo / (32768 : Int64))), (.long (2 : Int64))])) _
        refine XS.lmul X0.here hx rfl (hb hby at_82) rfl ?_
        show Steps p.tables e below (s₁.setTop (mkF m 83 #[.val (.long p1), .second, .val (.int p2), .val (.long ba), .second, .val (.long wo), .second, .val (.long (wo / (32768 : Int64))), .second, .val (.long (wo % (32768 : Int64))), .second, .unset, .unset, .unset] [(.long ((2 : Int64) * (wo / (32768 : Int64))))])) _
        refine XS.lstore X0.here hx rfl (hb hby at_83) rfl (l' := #[.val (.long p1), .second, .val (.int p2), .val (.long ba), .second, .val (.long wo), .second, .val (.long (wo / (32768 : Int64))), .second, .val (.long (wo % (32768 : Int64))), .second, .val (.long ((2 : Int64) * (wo / (32768 : Int64)))), .second, .unset]) rfl ?_
        show Steps p.tables e below (s₁.setTop (mkF m 85 #[.val (.long p1), .second, .val (.int p2), .val (.long ba), .second, .val (.long wo), .second, .val (.long (wo / (32768 : Int64))), .second, .val (.long (wo % (32768 : Int64))), .second, .val (.long ((2 : Int64) * (wo / (32768 : Int64)))), .second, .unset] [])) _
        refine XS.lload X0.here hx rfl (hb hby at_85) rfl ?_
        show Steps p.tables e below (s₁.setTop (mkF m 87 #[.val (.long p1), .second, .val (.int p2), .val (.long ba), .second, .val (.long wo), .second, .val (.long (wo / (32768 : Int64))), .second, .val (.long (wo % (32768 : Int64))), .second, .val (.long ((2 : Int64) * (wo / (32768 : Int64)))), .second, .unset] [(.long wo)])) _
        refine st11 _ ?_
        show Steps p.tables e below (T11.setTop (mkF m 90 #[.val (.long p1), .second, .val (.int p2), .val (.long ba), .second, .val (.long wo), .second, .val (.long (wo / (32768 : Int64))), .second, .val (.long (wo % (32768 : Int64))), .second, .val (.long ((2 : Int64) * (wo / (32768 : Int64)))), .second, .unset] [(.int (own_idx wo))])) _
        refine XS.istore X11.here hx rfl (hb hby at_90) rfl (l' := #[.val (.long p1), .second, .val (.int p2), .val (.long ba), .second, .val (.long wo), .second, .val (.long (wo / (32768 : Int64))), .second, .val (.long (wo % (32768 : Int64))), .second, .val (.long ((2 : Int64) * (wo / (32768 : Int64)))), .second, .val (.int (own_idx wo))]) rfl ?_
        show Steps p.tables e below (T11.setTop (mkF m 92 #[.val (.long p1), .second, .val (.int p2), .val (.long ba), .second, .val (.long wo), .second, .val (.long (wo / (32768 : Int64))), .second, .val (.long (wo % (32768 : Int64))), .second, .val (.long ((2 : Int64) * (wo / (32768 : Int64)))), .second, .val (.int (own_idx wo))] [])) _
        refine XS.iload X11.here hx rfl (hb hby at_92) rfl ?_
        show Steps p.tables e below (T11.setTop (mkF m 94 #[.val (.long p1), .second, .val (.int p2), .val (.long ba), .second, .val (.long wo), .second, .val (.long (wo / (32768 : Int64))), .second, .val (.long (wo % (32768 : Int64))), .second, .val (.long ((2 : Int64) * (wo / (32768 : Int64)))), .second, .val (.int (own_idx wo))] [(.int (own_idx wo))])) _
        refine XS.i2l X11.here hx rfl (hb hby at_94) rfl ?_
        show Steps p.tables e below (T11.setTop (mkF m 95 #[.val (.long p1), .second, .val (.int p2), .val (.long ba), .second, .val (.long wo), .second, .val (.long (wo / (32768 : Int64))), .second, .val (.long (wo % (32768 : Int64))), .second, .val (.long ((2 : Int64) * (wo / (32768 : Int64)))), .second, .val (.int (own_idx wo))] [(.long ((own_idx wo).toInt64))])) _
        refine XS.lload X11.here hx rfl (hb hby at_95) rfl ?_
        show Steps p.tables e below (T11.setTop (mkF m 97 #[.val (.long p1), .second, .val (.int p2), .val (.long ba), .second, .val (.long wo), .second, .val (.long (wo / (32768 : Int64))), .second, .val (.long (wo % (32768 : Int64))), .second, .val (.long ((2 : Int64) * (wo / (32768 : Int64)))), .second, .val (.int (own_idx wo))] [(.long ((2 : Int64) * (wo / (32768 : Int64)))), (.long ((own_idx wo).toInt64))])) _
        refine XS.lcmp X11.here hx rfl (hb hby at_97) rfl ?_
        show Steps p.tables e below (T11.setTop (mkF m 98 #[.val (.long p1), .second, .val (.int p2), .val (.long ba), .second, .val (.long wo), .second, .val (.long (wo / (32768 : Int64))), .second, .val (.long (wo % (32768 : Int64))), .second, .val (.long ((2 : Int64) * (wo / (32768 : Int64)))), .second, .val (.int (own_idx wo))] [(.int (lcmpW ((own_idx wo).toInt64) ((2 : Int64) * (wo / (32768 : Int64)))))])) _
        refine XS.ifNo X11.here hx rfl (hb hby at_98) rfl ((if0 _ _).trans (teq ((own_lc0 (own_even hwo.1 hwo.2 hc)) : (lcmpW ((own_idx wo).toInt64) ((2 : Int64) * (wo / (32768 : Int64)))) = (0 : Int32))).2) ?_
        show Steps p.tables e below (T11.setTop (mkF m 101 #[.val (.long p1), .second, .val (.int p2), .val (.long ba), .second, .val (.long wo), .second, .val (.long (wo / (32768 : Int64))), .second, .val (.long (wo % (32768 : Int64))), .second, .val (.long ((2 : Int64) * (wo / (32768 : Int64)))), .second, .val (.int (own_idx wo))] [])) _
        refine XS.iconst X11.here hx rfl (hb hby at_101) ?_
        show Steps p.tables e below (T11.setTop (mkF m 102 #[.val (.long p1), .second, .val (.int p2), .val (.long ba), .second, .val (.long wo), .second, .val (.long (wo / (32768 : Int64))), .second, .val (.long (wo % (32768 : Int64))), .second, .val (.long ((2 : Int64) * (wo / (32768 : Int64)))), .second, .val (.int (own_idx wo))] [(.int (1 : Int32))])) _
        refine XS.goto X11.here hx rfl (pc0 := 102) (pc' := 106) rfl (hb hby at_102) (by decide) (by decide) ?_
        exact k)
      obtain ⟨fs, hr, hrun, hended, hW, hsame⟩ := X11.leave (v := some (.int (nar .boolean (1 : Int32)))) (fun h => by rw [Bd.returns] at h; cases h)
      refine ⟨_, _, pre12 _ ?_, hrun, hended, _, _, rfl, ?_, ⟨_, rfl⟩, hW, hsame.mono (by decide) (by decide)⟩
      · show Steps p.tables e below (T11.setTop (mkF m 106 #[.val (.long p1), .second, .val (.int p2), .val (.long ba), .second, .val (.long wo), .second, .val (.long (wo / (32768 : Int64))), .second, .val (.long (wo % (32768 : Int64))), .second, .val (.long ((2 : Int64) * (wo / (32768 : Int64)))), .second, .val (.int (own_idx wo))] [(.int (1 : Int32))])) _
        exact retN X11 hx (t := .boolean) Bd.returns (by simp) (hb hby at_106) hr
      · show QL n0 _ T11.heap _
        rw [e11]
        exact ⟨rfl, N11⟩
    · obtain ⟨_, _, ⟨T13, L13, k13, n13⟩, -, X13, ⟨Lc13, hQ13, l13, y13, z13⟩, st13⟩ := Jvm.LawKit.callS X0 hx (y := (⟨"com/example/elderflower/elderflower/PagedWords", "indexOf", "(J)I"⟩ : MethodName)) hown (mvT hZ (hw _ (List.mem_of_getElem? (i := 4) rfl))) (mvT hZ (hw _ (List.mem_of_getElem? (i := 5) rfl))) (mvT hZ (hw _ (List.mem_of_getElem? (i := 6) rfl))) (mvT hZ (hw _ (List.mem_of_getElem? (i := 7) rfl))) (by decide) (backOf (W := 0) (rm1 l Z a0 hw [] wo  h0 n0 Z0 S_PAGE_SHIFT) hZ (hw _ (List.mem_of_getElem? (i := 7) rfl)) (hw _ (List.mem_of_getElem? (i := 6) rfl)) (by decide) (by decide)) (g := (mkF m 87 #[.val (.long p1), .second, .val (.int p2), .val (.long ba), .second, .val (.long wo), .second, .val (.long (wo / (32768 : Int64))), .second, .val (.long (wo % (32768 : Int64))), .second, .val (.long (((2 : Int64) * (wo / (32768 : Int64))) + (1 : Int64))), .second, .unset] [(.long wo)])) rfl (by rw [hml]; rfl) (argsL := [(.long wo)]) (rest := []) (lenOf own_pd0 rfl) rfl (by show 2 * 0 + _ ≤ _; exact Nat.le_of_eq rfl) (hb hby at_87) (fun _ _ => ⟨rfl, e0, (by decide : 0 + 0 ≤ _), (by decide : 0 + 0 ≤ _)⟩)
      dsimp only [Pt.U, Pt.locs, Pt.cells, Pt.slots] at X13 l13 y13 z13 st13 hQ13
      subst l13 y13 z13
      obtain ⟨rfl, N13q, e13⟩ := hQ13
      have N13 := Fr.app N0 N13q
      have pre14 : ∀ t, Steps p.tables e below (T13.setTop (mkF m 106 #[.val (.long p1), .second, .val (.int p2), .val (.long ba), .second, .val (.long wo), .second, .val (.long (wo / (32768 : Int64))), .second, .val (.long (wo % (32768 : Int64))), .second, .val (.long (((2 : Int64) * (wo / (32768 : Int64))) + (1 : Int64))), .second, .val (.int (own_idx wo))] [(.int (1 : Int32))])) t → Steps p.tables e below (s₁.setTop (entryFrame m #[(.long p1), (.int p2)] maxLocals)) t := fun t k => pre10 t (by
        show Steps p.tables e below (s₁.setTop (mkF m 63 #[.val (.long p1), .second, .val (.int p2), .val (.long ba), .second, .val (.long wo), .second, .val (.long (wo / (32768 : Int64))), .second, .val (.long (wo % (32768 : Int64))), .second, .unset, .unset, .unset] [(.int (lcmpW (wo % (32768 : Int64)) (32764 : Int64)))])) _
        refine XS.ifNo X0.here hx rfl (hb hby at_63) rfl ((if0 _ _).trans (flt ((own_lcge hc) : ¬ ((lcmpW (wo % (32768 : Int64)) (32764 : Int64)) < (0 : Int32)))).1) ?_
        show Steps p.tables e below (s₁.setTop (mkF m 66 #[.val (.long p1), .second, .val (.int p2), .val (.long ba), .second, .val (.long wo), .second, .val (.long (wo / (32768 : Int64))), .second, .val (.long (wo % (32768 : Int64))), .second, .unset, .unset, .unset] [])) _
        refine X0.ldc2Long hx hown (mvT hZ (hw _ (List.mem_of_getElem? (i := 3) rfl))) (g := (mkF m 66 #[.val (.long p1), .second, .val (.int p2), .val (.long ba), .second, .val (.long wo), .second, .val (.long (wo / (32768 : Int64))), .second, .val (.long (wo % (32768 : Int64))), .second, .unset, .unset, .unset] [])) rfl (hb hby at_66) _ ?_
        show Steps p.tables e below (s₁.setTop (mkF m 69 #[.val (.long p1), .second, .val (.int p2), .val (.long ba), .second, .val (.long wo), .second, .val (.long (wo / (32768 : Int64))), .second, .val (.long (wo % (32768 : Int64))), .second, .unset, .unset, .unset] [(.long (2 : Int64))])) _
        refine XS.lload X0.here hx rfl (hb hby at_69) rfl ?_
        show Steps p.tables e below (s₁.setTop (mkF m 71 #[.val (.long p1), .second, .val (.int p2), .val (.long ba), .second, .val (.long wo), .second, .val (.long (wo / (32768 : Int64))), .second, .val (.long (wo % (32768 : Int64))), .second, .unset, .unset, .unset] [(.long (wo / (32768 : Int64))), (.long (2 : Int64))])) _
        refine XS.lmul X0.here hx rfl (hb hby at_71) rfl ?_
        show Steps p.tables e below (s₁.setTop (mkF m 72 #[.val (.long p1), .second, .val (.int p2), .val (.long ba), .second, .val (.long wo), .second, .val (.long (wo / (32768 : Int64))), .second, .val (.long (wo % (32768 : Int64))), .second, .unset, .unset, .unset] [(.long ((2 : Int64) * (wo / (32768 : Int64))))])) _
        refine XS.lconst X0.here hx rfl (hb hby at_72) ?_
        show Steps p.tables e below (s₁.setTop (mkF m 73 #[.val (.long p1), .second, .val (.int p2), .val (.long ba), .second, .val (.long wo), .second, .val (.long (wo / (32768 : Int64))), .second, .val (.long (wo % (32768 : Int64))), .second, .unset, .unset, .unset] [(.long (1 : Int64)), (.long ((2 : Int64) * (wo / (32768 : Int64))))])) _
        refine XS.ladd X0.here hx rfl (hb hby at_73) rfl ?_
        show Steps p.tables e below (s₁.setTop (mkF m 74 #[.val (.long p1), .second, .val (.int p2), .val (.long ba), .second, .val (.long wo), .second, .val (.long (wo / (32768 : Int64))), .second, .val (.long (wo % (32768 : Int64))), .second, .unset, .unset, .unset] [(.long (((2 : Int64) * (wo / (32768 : Int64))) + (1 : Int64)))])) _
        refine XS.goto X0.here hx rfl (pc0 := 74) (pc' := 83) rfl (hb hby at_74) (by decide) (by decide) ?_
        show Steps p.tables e below (s₁.setTop (mkF m 83 #[.val (.long p1), .second, .val (.int p2), .val (.long ba), .second, .val (.long wo), .second, .val (.long (wo / (32768 : Int64))), .second, .val (.long (wo % (32768 : Int64))), .second, .unset, .unset, .unset] [(.long (((2 : Int64) * (wo / (32768 : Int64))) + (1 : Int64)))])) _
        refine XS.lstore X0.here hx rfl (hb hby at_83) rfl (l' := #[.val (.long p1), .second, .val (.int p2), .val (.long ba), .second, .val (.long wo), .second, .val (.long (wo / (32768 : Int64))), .second, .val (.long (wo % (32768 : Int64))), .second, .val (.long (((2 : Int64) * (wo / (32768 : Int64))) + (1 : Int64))), .second, .unset]) rfl ?_
        show Steps p.tables e below (s₁.setTop (mkF m 85 #[.val (.long p1), .second, .val (.int p2), .val (.long ba), .second, .val (.long wo), .second, .val (.long (wo / (32768 : Int64))), .second, .val (.long (wo % (32768 : Int64))), .second, .val (.long (((2 : Int64) * (wo / (32768 : Int64))) + (1 : Int64))), .second, .unset] [])) _
        refine XS.lload X0.here hx rfl (hb hby at_85) rfl ?_
        show Steps p.tables e below (s₁.setTop (mkF m 87 #[.val (.long p1), .second, .val (.int p2), .val (.long ba), .second, .val (.long wo), .second, .val (.long (wo / (32768 : Int64))), .second, .val (.long (wo % (32768 : Int64))), .second, .val (.long (((2 : Int64) * (wo / (32768 : Int64))) + (1 : Int64))), .second, .unset] [(.long wo)])) _
        refine st13 _ ?_
        show Steps p.tables e below (T13.setTop (mkF m 90 #[.val (.long p1), .second, .val (.int p2), .val (.long ba), .second, .val (.long wo), .second, .val (.long (wo / (32768 : Int64))), .second, .val (.long (wo % (32768 : Int64))), .second, .val (.long (((2 : Int64) * (wo / (32768 : Int64))) + (1 : Int64))), .second, .unset] [(.int (own_idx wo))])) _
        refine XS.istore X13.here hx rfl (hb hby at_90) rfl (l' := #[.val (.long p1), .second, .val (.int p2), .val (.long ba), .second, .val (.long wo), .second, .val (.long (wo / (32768 : Int64))), .second, .val (.long (wo % (32768 : Int64))), .second, .val (.long (((2 : Int64) * (wo / (32768 : Int64))) + (1 : Int64))), .second, .val (.int (own_idx wo))]) rfl ?_
        show Steps p.tables e below (T13.setTop (mkF m 92 #[.val (.long p1), .second, .val (.int p2), .val (.long ba), .second, .val (.long wo), .second, .val (.long (wo / (32768 : Int64))), .second, .val (.long (wo % (32768 : Int64))), .second, .val (.long (((2 : Int64) * (wo / (32768 : Int64))) + (1 : Int64))), .second, .val (.int (own_idx wo))] [])) _
        refine XS.iload X13.here hx rfl (hb hby at_92) rfl ?_
        show Steps p.tables e below (T13.setTop (mkF m 94 #[.val (.long p1), .second, .val (.int p2), .val (.long ba), .second, .val (.long wo), .second, .val (.long (wo / (32768 : Int64))), .second, .val (.long (wo % (32768 : Int64))), .second, .val (.long (((2 : Int64) * (wo / (32768 : Int64))) + (1 : Int64))), .second, .val (.int (own_idx wo))] [(.int (own_idx wo))])) _
        refine XS.i2l X13.here hx rfl (hb hby at_94) rfl ?_
        show Steps p.tables e below (T13.setTop (mkF m 95 #[.val (.long p1), .second, .val (.int p2), .val (.long ba), .second, .val (.long wo), .second, .val (.long (wo / (32768 : Int64))), .second, .val (.long (wo % (32768 : Int64))), .second, .val (.long (((2 : Int64) * (wo / (32768 : Int64))) + (1 : Int64))), .second, .val (.int (own_idx wo))] [(.long ((own_idx wo).toInt64))])) _
        refine XS.lload X13.here hx rfl (hb hby at_95) rfl ?_
        show Steps p.tables e below (T13.setTop (mkF m 97 #[.val (.long p1), .second, .val (.int p2), .val (.long ba), .second, .val (.long wo), .second, .val (.long (wo / (32768 : Int64))), .second, .val (.long (wo % (32768 : Int64))), .second, .val (.long (((2 : Int64) * (wo / (32768 : Int64))) + (1 : Int64))), .second, .val (.int (own_idx wo))] [(.long (((2 : Int64) * (wo / (32768 : Int64))) + (1 : Int64))), (.long ((own_idx wo).toInt64))])) _
        refine XS.lcmp X13.here hx rfl (hb hby at_97) rfl ?_
        show Steps p.tables e below (T13.setTop (mkF m 98 #[.val (.long p1), .second, .val (.int p2), .val (.long ba), .second, .val (.long wo), .second, .val (.long (wo / (32768 : Int64))), .second, .val (.long (wo % (32768 : Int64))), .second, .val (.long (((2 : Int64) * (wo / (32768 : Int64))) + (1 : Int64))), .second, .val (.int (own_idx wo))] [(.int (lcmpW ((own_idx wo).toInt64) (((2 : Int64) * (wo / (32768 : Int64))) + (1 : Int64))))])) _
        refine XS.ifNo X13.here hx rfl (hb hby at_98) rfl ((if0 _ _).trans (teq ((own_lc0 (own_odd hwo.1 hwo.2 hc)) : (lcmpW ((own_idx wo).toInt64) (((2 : Int64) * (wo / (32768 : Int64))) + (1 : Int64))) = (0 : Int32))).2) ?_
        show Steps p.tables e below (T13.setTop (mkF m 101 #[.val (.long p1), .second, .val (.int p2), .val (.long ba), .second, .val (.long wo), .second, .val (.long (wo / (32768 : Int64))), .second, .val (.long (wo % (32768 : Int64))), .second, .val (.long (((2 : Int64) * (wo / (32768 : Int64))) + (1 : Int64))), .second, .val (.int (own_idx wo))] [])) _
        refine XS.iconst X13.here hx rfl (hb hby at_101) ?_
        show Steps p.tables e below (T13.setTop (mkF m 102 #[.val (.long p1), .second, .val (.int p2), .val (.long ba), .second, .val (.long wo), .second, .val (.long (wo / (32768 : Int64))), .second, .val (.long (wo % (32768 : Int64))), .second, .val (.long (((2 : Int64) * (wo / (32768 : Int64))) + (1 : Int64))), .second, .val (.int (own_idx wo))] [(.int (1 : Int32))])) _
        refine XS.goto X13.here hx rfl (pc0 := 102) (pc' := 106) rfl (hb hby at_102) (by decide) (by decide) ?_
        exact k)
      obtain ⟨fs, hr, hrun, hended, hW, hsame⟩ := X13.leave (v := some (.int (nar .boolean (1 : Int32)))) (fun h => by rw [Bd.returns] at h; cases h)
      refine ⟨_, _, pre14 _ ?_, hrun, hended, _, _, rfl, ?_, ⟨_, rfl⟩, hW, hsame.mono (by decide) (by decide)⟩
      · show Steps p.tables e below (T13.setTop (mkF m 106 #[.val (.long p1), .second, .val (.int p2), .val (.long ba), .second, .val (.long wo), .second, .val (.long (wo / (32768 : Int64))), .second, .val (.long (wo % (32768 : Int64))), .second, .val (.long (((2 : Int64) * (wo / (32768 : Int64))) + (1 : Int64))), .second, .val (.int (own_idx wo))] [(.int (1 : Int32))])) _
        exact retN X13 hx (t := .boolean) Bd.returns (by simp) (hb hby at_106) hr
      · show QL n0 _ T13.heap _
        rw [e13]
        exact ⟨rfl, N13⟩
set_option maxRecDepth 65536 in
set_option maxHeartbeats 40000000 in
theorem comes_1 {Post : Tables → Env → Array Value → State → Outcome → State → Prop} (hpost : ∀ tb e args s v u, (limb_1_1.after args s (.returned v) u = true ∧ limb_1_2.after args s (.returned v) u = true ∧ True) → FrameEnd s (.returned v) u (Jvm.fieldLocs frame_1_writes args s ++ Jvm.arrayLocs frame_1_arrays args s ++ Jvm.staticLocs frame_1_statics s) 0 0 → Post tb e args s (.returned v) u) :
    ArmFor flags0 classFile x code maxLocals ret World_1 tables_1 room_1 Calls_1 rest_1 Pre_1 Post := by
  intro l hfl _ _ p e ha hc hk s m args below hf hA hF happ hP
  obtain ⟨hcalls, hrest, hpre⟩ := hP
  obtain ⟨-, -, -, hnamed, -, -, -, hat⟩ := (Spec.applies_iff hf).mp happ
  obtain ⟨hg, hn⟩ := and_e (Cond.before_iff.mp (show (Jvm.Cond.and given_1 narrow_1).before args s = true from hpre))
  obtain ⟨gc, gr0⟩ := and_e hg
  obtain ⟨ga0, gr1⟩ := and_e gr0
  have ga1 := gr1
  obtain ⟨w0, w1, rfl⟩ : ∃ w0 w1 : Value, args = #[w0, w1] := by
    have hs : args.size = 2 := by simpa [Cond.value, given_1] using gc
    obtain ⟨L⟩ := args
    match L, hs with
    | [w0, w1], _ => exact ⟨w0, w1, rfl⟩
  have hw := fun d (hd : d ∈ tables_1) => atoms_spec (ws := Jvm.Cond.code x code maxLocals ret :: tables_1) hat d (List.mem_cons_of_mem _ hd)
  have hfit : Fit s := fun {y c} hc i hi => by
    obtain ⟨ha, rfl⟩ := Array.getElem?_eq_some_iff.mp hc
    have q := List.all_eq_true.mp ((Array.all_eq_true_iff_forall_mem.mp hF) _ (Array.getElem_mem ha)) i (List.mem_range.mpr hi)
    simpa [Array.getElem?_eq_getElem hi] using q
  obtain ⟨i0, ei0⟩ := isL_v ga0
  obtain rfl : w0 = (.long i0) := Option.some.inj ei0
  obtain ⟨i1, ei1⟩ := is_v ga1
  obtain rfl : w1 = (.int i1) := Option.some.inj ei1
  have c0 := hn
  have S_PAGE_SHIFT := Sta.start (own_intv c0) (Or.inr ⟨(hw _ (List.mem_of_getElem? (i := 6) rfl)), (hw _ (List.mem_of_getElem? (i := 9) rfl))⟩)
  obtain ⟨n, o, h1, h2, h3, _, L, rfl, ⟨rfl, N⟩, hq⟩ := rm0 l s _ hw tables_1 i0 i1  s.heap s.heap.size (Nat.le_refl _) S_PAGE_SHIFT p e ha hc hk s m _ below hf ((Spec.applies_iff_loose hf).mp happ).1 ⟨rfl, State.Warmed39.refl s, rfl⟩ trivial
  refine ⟨n, _, h1, h2, h3, hpost _ _ _ _ _ _ ⟨Cond.after_iff.mpr rfl, Cond.after_iff.mpr (eq_i res_at (Term.int_eval (1)) rfl), trivial⟩ ⟨hq.1, hq.2.1, (hq.2.2.sift fun y hy => Or.inr (N y hy)).mono (by decide) (by decide)⟩⟩
theorem main_1_1 : Claimed_1_1 := comes_1 fun _ _ _ _ _ _ h hF => ⟨h.1, hF⟩
theorem main_1_2 : Claimed_1_2 := comes_1 fun _ _ _ _ _ _ h hF => ⟨h.2.1, hF⟩
end Jvm.Pilot.@@N@@
namespace Jvm.Pilot.@@N@@
open Jvm Jvm.ClassFile Sem Op Lib Jvm.Free Jvm.Stand Jvm.Pilot.@@N@@.Jvm.D
/-! MADE BY PROGRAM (witnessworld.py) out of the Statement's table words and the real class files: 9 classes; the members and pool entries that the words name. The judged class is class 1, her method 1. -/
namespace start1
open Jvm.ClassFile
def u (s : String) : CpInfo := .utf8 (stringToUtf16 s)
/-- a pool by its gaps: so many unusable entries, then the entry; so many at the end -/
def gap : Nat → List CpInfo → List CpInfo
  | 0, r => r
  | n + 1, r => .unusable :: gap n r
def poolList (es : List (Nat × CpInfo)) (last : Nat) : List CpInfo := es.foldr (fun e r => gap e.1 (e.2 :: r)) (gap last [])
def pool (es : List (Nat × CpInfo)) (last : Nat) : Array CpInfo := ⟨poolList es last⟩
def fileOf (pool : Array CpInfo) (this : Nat) (attrs : Array Attribute := #[]) (ms : Array MethodInfo := #[]) (fl : Nat := 33) (sup : Nat := 0) (ifs : Array Nat := #[]) (fds : Array FieldInfo := #[]) : ClassFile where
  minorVersion := 0
  majorVersion := 65
  constantPool := pool
  accessFlags := fl
  thisClass := this
  superClass := sup
  interfaces := ifs
  fields := fds
  methods := ms
  attributes := attrs
def plain (name : String) (sup : Option ClassId) : Class where
  name := name
  kind := .ordinary
  loader := none
  accessFlags := 33
  super := sup
  interfaces := #[]
  cf := none
  fields := #[]
  methods := #[]
  instanceTypes := #[]
  staticTypes := #[]
  resolved := #[]
  callSites := []
  init := .initialized
  statics := none
  mirror := none

def pool0 : Array CpInfo := pool [(5, u "<init>"), (0, u "()V"), (1, .class_ 10), (1, u "java/lang/Object")] 113

def k0m0 : Method := { name := "<init>", desc := "()V", sig := { parameters := [], returnType := none }, accessFlags := 1, code := none }
/-- java/lang/Object -/
def k0 : Class := { plain "java/lang/Object" none with
  accessFlags := 33
  interfaces := #[]
  cf := some (fileOf pool0 8 #[] #[{ accessFlags := 1, nameIndex := 5, descriptorIndex := 6, attributes := #[] }] 33 0 #[] #[])
  fields := #[]
  methods := #[k0m0]
  instanceTypes := #[]
  staticTypes := #[]
  resolved := Array.replicate 124 none
  statics := none }

def pool1 : Array CpInfo := pool [(2, .class_ 4), (1, u "java/lang/Object"), (0, u "<init>"), (0, u "()V"), (0, .class_ 8), (0, u "com/example/elderflower/elderflower/PagedWordsIndexOfPinLaw"), (0, .long 35184372088831), (1, .long 32768), (1, .long 32760), (1, .long 32764), (1, .long 2), (1, .methodref 20 21), (0, .class_ 22), (0, .nameAndType 23 24), (0, u "com/example/elderflower/elderflower/PagedWords"), (0, u "indexOf"), (0, u "(J)I"), (0, u "MASK"), (0, u "J"), (3, u "law"), (0, u "(JI)Z")] 3

def k1m0 : Method := { name := "<init>", desc := "()V", sig := { parameters := [], returnType := none }, accessFlags := 1, code := none }
def k1c1 : Code := { maxStack := 4, maxLocals := 14, code := code, exceptionTable := #[], attributes := #[] }
def k1m1 : Method := { name := "law", desc := "(JI)Z", sig := { parameters := [.long, .int], returnType := some .boolean }, accessFlags := 9, code := some k1c1 }
/-- com/example/elderflower/elderflower/PagedWordsIndexOfPinLaw -/
def k1 : Class := { plain "com/example/elderflower/elderflower/PagedWordsIndexOfPinLaw" (some 0) with
  accessFlags := 49
  interfaces := #[]
  cf := some (fileOf pool1 7 #[] #[{ accessFlags := 1, nameIndex := 5, descriptorIndex := 6, attributes := #[] }, { accessFlags := 9, nameIndex := 30, descriptorIndex := 31, attributes := #[] }] 49 2 #[] #[{ accessFlags := 26, nameIndex := 25, descriptorIndex := 26, attributes := #[] }])
  fields := #[{ name := "MASK", type := .long, accessFlags := 26, slot := 0, constantValue := 0 }]
  methods := #[k1m0, k1m1]
  instanceTypes := #[]
  staticTypes := #[.long]
  resolved := Array.replicate 35 none
  statics := none }

def pool2 : Array CpInfo := pool [(1, .class_ 2), (0, u "com/example/elderflower/elderflower/PagedWords"), (1, .class_ 6), (1, u "java/lang/Object"), (4, .fieldref 1 12), (0, .nameAndType 13 14), (0, u "PAGE_SHIFT"), (0, u "I"), (2, u "size"), (0, u "J"), (4, u "heads"), (0, u "[[J"), (2, u "tails"), (2, u "arrays"), (17, u "(J)I"), (6, u "PAGE_WORDS"), (1, u "TAIL_WORDS"), (1, u "HEAD_WORDS"), (9, u "indexOf")] 3

def k2c0 : Code := { maxStack := 3, maxLocals := 4, code := prog_35_method_6_code, exceptionTable := #[], attributes := #[] }
def k2m0 : Method := { name := "indexOf", desc := "(J)I", sig := { parameters := [.long], returnType := some .int }, accessFlags := 8, code := some k2c0 }
/-- com/example/elderflower/elderflower/PagedWords -/
def k2 : Class := { plain "com/example/elderflower/elderflower/PagedWords" (some 0) with
  accessFlags := 32
  interfaces := #[]
  cf := some (fileOf pool2 1 #[] #[{ accessFlags := 8, nameIndex := 69, descriptorIndex := 48, attributes := #[] }] 32 4 #[] #[{ accessFlags := 24, nameIndex := 55, descriptorIndex := 14, attributes := #[] }, { accessFlags := 24, nameIndex := 57, descriptorIndex := 14, attributes := #[] }, { accessFlags := 26, nameIndex := 13, descriptorIndex := 14, attributes := #[] }, { accessFlags := 26, nameIndex := 59, descriptorIndex := 14, attributes := #[] }, { accessFlags := 18, nameIndex := 17, descriptorIndex := 18, attributes := #[] }, { accessFlags := 18, nameIndex := 23, descriptorIndex := 24, attributes := #[] }, { accessFlags := 18, nameIndex := 27, descriptorIndex := 24, attributes := #[] }, { accessFlags := 18, nameIndex := 30, descriptorIndex := 24, attributes := #[] }])
  fields := #[{ name := "PAGE_WORDS", type := .int, accessFlags := 24, slot := 0, constantValue := 0 }, { name := "TAIL_WORDS", type := .int, accessFlags := 24, slot := 1, constantValue := 0 }, { name := "PAGE_SHIFT", type := .int, accessFlags := 26, slot := 2, constantValue := 0 }, { name := "HEAD_WORDS", type := .int, accessFlags := 26, slot := 3, constantValue := 0 }, { name := "size", type := .long, accessFlags := 18, slot := 0, constantValue := 0 }, { name := "heads", type := (.array (.array .long)), accessFlags := 18, slot := 1, constantValue := 0 }, { name := "tails", type := (.array (.array .long)), accessFlags := 18, slot := 2, constantValue := 0 }, { name := "arrays", type := (.array (.array .long)), accessFlags := 18, slot := 3, constantValue := 0 }]
  methods := #[k2m0]
  instanceTypes := #[.long, (.array (.array .long)), (.array (.array .long)), (.array (.array .long))]
  staticTypes := #[.int, .int, .int, .int]
  resolved := Array.replicate 73 none
  statics := some 0 }

def pool3 : Array CpInfo := pool [(1, u "java/lang/Cloneable"), (0, .class_ 1), (0, u "java/lang/Object"), (0, .class_ 3)] 3

/-- java/lang/Cloneable -/
def k3 : Class := { plain "java/lang/Cloneable" (some 0) with
  accessFlags := 1537
  interfaces := #[]
  cf := some (fileOf pool3 2 #[] #[] 1537 4 #[] #[])
  fields := #[]
  methods := #[]
  instanceTypes := #[]
  staticTypes := #[]
  resolved := Array.replicate 8 none
  statics := none }

def pool4 : Array CpInfo := pool [(1, u "java/io/Serializable"), (0, .class_ 1), (0, u "java/lang/Object"), (0, .class_ 3)] 3

/-- java/io/Serializable -/
def k4 : Class := { plain "java/io/Serializable" (some 0) with
  accessFlags := 1537
  interfaces := #[]
  cf := some (fileOf pool4 2 #[] #[] 1537 4 #[] #[])
  fields := #[]
  methods := #[]
  instanceTypes := #[]
  staticTypes := #[]
  resolved := Array.replicate 8 none
  statics := none }

/-- the primitive byte -/
def k5 : Class := { plain "byte" none with kind := .primitive 'B', accessFlags := 0x411 }
/-- [B -/
def k6 : Class := { plain "[B" (some 0) with kind := .array 5 .byte, interfaces := #[3, 4], accessFlags := 1041 }

/-- the primitive int -/
def k7 : Class := { plain "int" none with kind := .primitive 'I', accessFlags := 0x411 }
/-- [I -/
def k8 : Class := { plain "[I" (some 0) with kind := .array 7 .int, interfaces := #[3, 4], accessFlags := 1041 }

def heap : Heap := #[{ cls := 2, slots := #[.int 0, .int 0, .int 15, .int 0], vm := .statics 2 }]
def classes : Array Class := #[k0, k1, k2, k3, k4, k5, k6, k7, k8]
def interned : List (Array UInt16 × Addr) := []
def slotsUsed : Nat := 4
def theMethod : MethodId := ⟨1, 1⟩
def args0 : Array Value := #[.long 5, .int 7]
def aboutOver (below : List Frame) : State where
  vm := { classes := classes, interned := interned.toArray }
  heap := heap
  slotsUsed := slotsUsed
  threads := #[{ frames := .invoking theMethod args0 :: below }]
def below0 : List Frame := [.native { method := ⟨0, 0⟩, args := #[] }]
def about1 : State := aboutOver below0
def p0 : Program := .bare "" "" ""
def e0 : Env := launch0.env 0 0 0
theorem w_frames : about1.frames = Frame.invoking theMethod args0 :: below0 := rfl
set_option maxRecDepth 65536 in
theorem w_args : argsFit about1.vm theMethod args0 = true := by decide +kernel
set_option maxRecDepth 65536 in
theorem w_heap : heapFits about1 = true := by decide +kernel
set_option maxRecDepth 65536 in
theorem w_runnable : about1.curStatus? = some .runnable := by decide +kernel
set_option maxRecDepth 65536 in
theorem w_alone : about1.alone = true := by decide +kernel
set_option maxRecDepth 65536 in
theorem w_named : about1.methodNamed? x = some theMethod := by decide +kernel
set_option maxRecDepth 65536 in
theorem w_hears : about1.hears theMethod below0 = true := by decide +kernel
set_option maxRecDepth 65536 in
theorem w_ripe : about1.ripe theMethod args0 below0 = true := by decide +kernel
theorem w_running : about1.status = .running := rfl
set_option maxRecDepth 65536 in
theorem w_room : about1.hasRoom e0.platform room_1 = true :=
  launch0.hasRoom_least _ room_1 (by decide +kernel) (by decide +kernel) (by decide +kernel) (by decide +kernel) (by decide +kernel) (by decide +kernel)
theorem allAtoms_all (ts : List Jvm.Cond) (a : Array Jvm.Value) (st : Jvm.State) : (allAtoms ts).before a st = ts.all (fun c => c.before a st) := by
  induction ts with
  | nil => rfl
  | cons c t ih =>
    show (Jvm.Cond.and c (allAtoms t)).before a st = _
    rw [Jvm.Cond.before_and, ih, List.all_cons]
def words1 : List Jvm.Cond := Jvm.Cond.code x code maxLocals ret :: tables_1
/-- a 'code' word, met by the world's own term for the bytes: nothing is compared byte by byte -/
theorem code_word {y : MethodName} {bytes : ByteArray} {mx : Nat} {rt : Option FieldType} {a : Array Value} {s : State} {m : MethodId} {meth : Method} {c : Code} (h1 : s.methodNamed? y = some m) (h2 : s.vm.method? m = some meth) (h3 : meth.code = some c) (h4 : c.code = bytes)
    (h5 : (c.maxLocals == mx && c.exceptionTable.isEmpty && decide (c.maxStack ≤ mostOperands) && decide (meth.sig.returnType = rt) && !meth.locks && decide (parseMethodDescriptor y.desc = some meth.sig)) = true) : (Jvm.Cond.code y bytes mx rt).before a s = true := by
  simp only [Bool.and_eq_true, beq_iff_eq, Bool.not_eq_true', decide_eq_true_eq] at h5
  obtain ⟨⟨⟨⟨⟨g1, g2⟩, g3⟩, g4⟩, g5⟩, g6⟩ := h5
  simp [Cond.before, Cond.holds, Cond.value, h1, h2, h3, h4, g1, g2, g3, g4, g5, g6]
def isCode : Jvm.Cond → Bool
  | .code _ _ _ _ => true
  | _ => false
theorem all_split {L : List Jvm.Cond} {P : Jvm.Cond → Bool} (h1 : L.all (fun c => isCode c || P c) = true) (h2 : ∀ c ∈ L.filter isCode, P c = true) : L.all P = true := by
  refine List.all_eq_true.mpr fun c hc => ?_
  have h := List.all_eq_true.mp h1 c hc
  rcases Bool.eq_false_or_eq_true (isCode c) with hi | hi
  · exact h2 c (List.mem_filter.mpr ⟨hc, hi⟩)
  · simpa [hi] using h
set_option maxRecDepth 65536 in
theorem w_c0 : (Jvm.Cond.code x code maxLocals ret).before args0 about1 = true := code_word (m := ⟨1, 1⟩) (meth := k1m1) (c := k1c1) (by decide +kernel) rfl rfl rfl (by decide +kernel)
set_option maxRecDepth 65536 in
theorem w_c1 : (Jvm.Cond.code ({ cls := "com/example/elderflower/elderflower/PagedWords", name := "indexOf", desc := "(J)I" } : Jvm.MethodName) prog_35_method_6_code (4 : Nat) (Option.some Jvm.ClassFile.FieldType.int)).before args0 about1 = true := code_word (m := ⟨2, 0⟩) (meth := k2m0) (c := k2c0) (by decide +kernel) rfl rfl rfl (by decide +kernel)
def codes1 : List Jvm.Cond := [Jvm.Cond.code x code maxLocals ret, Jvm.Cond.code ({ cls := "com/example/elderflower/elderflower/PagedWords", name := "indexOf", desc := "(J)I" } : Jvm.MethodName) prog_35_method_6_code (4 : Nat) (Option.some Jvm.ClassFile.FieldType.int)]
set_option maxRecDepth 65536 in
theorem codes_eq : words1.filter isCode = codes1 := rfl
theorem w_codes : ∀ c ∈ words1.filter isCode, c.before args0 about1 = true := by
  rw [codes_eq]
  intro c hc
  simp only [codes1, List.mem_cons, List.not_mem_nil, or_false] at hc
  rcases hc with rfl | rfl
  · exact w_c0
  · exact w_c1
set_option maxRecDepth 65536 in
theorem w_t1 : words1.all (fun c => isCode c || c.before args0 about1) = true := by decide +kernel
theorem w_tables : (allAtoms (Jvm.Cond.code x code maxLocals ret :: tables_1)).before args0 about1 = true := by
  rw [allAtoms_all]
  show words1.all (fun c => c.before args0 about1) = true
  refine all_split ?_ w_codes
  rw [w_t1]
set_option maxRecDepth 65536 in
theorem w_case : (Jvm.Cond.and given_1 narrow_1).before args0 about1 = true := by decide +kernel
theorem w_applies : (headSpec (Jvm.Cond.code x code maxLocals ret :: tables_1) room_1).applies x e0.platform about1 = true :=
  (Spec.applies_iff w_frames).mpr ⟨w_running, w_runnable, w_alone, w_named, w_hears, w_ripe, w_room, w_tables⟩
theorem atStart : AtStart classFile x code maxLocals ret World_1 tables_1 room_1 Calls_1 rest_1 Pre_1 launch0 p0 e0 about1 theMethod args0 below0 :=
  ⟨lists_1, trivial, launch0.admits_env _ _ _, launch0.least_env, fairChoices_fair.cas, fairChoices_fair.clock, w_frames, w_args, w_heap, w_applies, trivial, trivial, w_case⟩
end start1
theorem witness_1 : WitnessClaimed_1 := ⟨start1.p0, start1.e0, start1.about1, start1.theMethod, start1.args0, start1.below0, start1.atStart⟩
end Jvm.Pilot.@@N@@
