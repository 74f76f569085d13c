import JvmDerived
import JvmDerived.Pilot.@@N@@Statement
import JvmDerived.Pilot.@@N@@Code
set_option linter.unusedVariables false
set_option linter.unusedSimpArgs false
@@BLOCK:NumsL.lean.txt@@
namespace Jvm.RoadKit
open Sem ClassFile Op Lib Jvm.Stand Jvm.Free Jvm.LawKit
section New
variable {p : Program} {l : Launch} {e : Env} {R : Room} {s : State} {m : MethodId} {args : Array Value} {below : List Frame} {meth : Method} {c : Code} {T : State} {locs : List Loc} {cells slots : Nat}
theorem retI (X : Stand p l e R s m args below meth c T locs cells slots) (hx : p.tables.exec = Jvm.exec) {pc : Nat} {Ls : Array Slot} {z : Int32} {rest : List Value} (hret : meth.sig.returnType = some .int) (hd : decode c.code pc = .ok (.ireturn, 1)) {fs : List Frame}
    (hl : ∀ (f : JFrame) (acts : List Action), f.method = m → f.locked = none → f.entered = [] → (doReturn e (T.setTop f) acts (some (.int z))).1 = T.setFrames fs) : Steps p.tables e below (T.setTop (mkF m pc Ls (.int z :: rest))) (T.setFrames fs) := by
  have hm' : T.vm.method? m = some meth := X.method'
  have hn : narrow .int (.int z) = .int z := rfl
  show Steps p.tables e below (T.setTop { method := m, pc := pc, locals := Ls, stack := _ :: rest, locked := none }) _
  jvm_step X.here [X.here.top, hx, hd, hm', hret, hn]
  first | (intro acts; rw [hl _ acts rfl rfl rfl]) | rw [hl _ _ rfl rfl rfl]
  exact Steps.refl _
end New
end Jvm.RoadKit
namespace Jvm.Pilot.@@N@@
open Jvm Jvm.ClassFile Sem Op Lib Jvm.Free Jvm.Stand Jvm.LawKit Jvm.RoadKit Bundle Jvm.Pilot.@@N@@.Jvm.D
/-- a body that returns r, makes and writes nothing -/
def QP (r : Value) (h0 : Heap) (n0 : Nat) (v : Option Value) (h : Heap) (L : List Loc) : Prop := v = some r ∧ Fr n0 L ∧ h = h0
theorem own_d_prog_60_method_5_code_0 : decode prog_60_method_5_code 0 = .ok (.iload_n 1, 1) := by decide +kernel
theorem own_d_prog_60_method_5_code_1 : decode prog_60_method_5_code 1 = .ok (.aload_n 0, 1) := by decide +kernel
theorem own_d_prog_60_method_5_code_2 : decode prog_60_method_5_code 2 = .ok (.getfield 51, 3) := by decide +kernel
theorem own_d_prog_60_method_5_code_5 : decode prog_60_method_5_code 5 = .ok (.iushr, 1) := by decide +kernel
theorem own_d_prog_60_method_5_code_6 : decode prog_60_method_5_code 6 = .ok (.iconst 1, 1) := by decide +kernel
theorem own_d_prog_60_method_5_code_7 : decode prog_60_method_5_code 7 = .ok (.aload_n 0, 1) := by decide +kernel
theorem own_d_prog_60_method_5_code_8 : decode prog_60_method_5_code 8 = .ok (.getfield 55, 3) := by decide +kernel
theorem own_d_prog_60_method_5_code_11 : decode prog_60_method_5_code 11 = .ok (.ishl, 1) := by decide +kernel
theorem own_d_prog_60_method_5_code_12 : decode prog_60_method_5_code 12 = .ok (.iconst 1, 1) := by decide +kernel
theorem own_d_prog_60_method_5_code_13 : decode prog_60_method_5_code 13 = .ok (.isub, 1) := by decide +kernel
theorem own_d_prog_60_method_5_code_14 : decode prog_60_method_5_code 14 = .ok (.iand, 1) := by decide +kernel
theorem own_d_prog_60_method_5_code_15 : decode prog_60_method_5_code 15 = .ok (.ireturn, 1) := by decide +kernel
theorem own_d_method_3_code_0 : decode method_3_code 0 = .ok (.iload_n 0, 1) := by decide +kernel
theorem own_d_method_3_code_1 : decode method_3_code 1 = .ok (.ifCond .eq 8, 3) := by decide +kernel
theorem own_d_method_3_code_9 : decode method_3_code 9 = .ok (.iconst 1, 1) := by decide +kernel
theorem own_d_method_3_code_10 : decode method_3_code 10 = .ok (.goto 4, 3) := by decide +kernel
theorem own_d_method_3_code_14 : decode method_3_code 14 = .ok (.ireturn, 1) := by decide +kernel
theorem own_d_method_3_code_4 : decode method_3_code 4 = .ok (.iload_n 0, 1) := by decide +kernel
theorem own_d_method_3_code_5 : decode method_3_code 5 = .ok (.iconst 1, 1) := by decide +kernel
theorem own_d_method_3_code_6 : decode method_3_code 6 = .ok (.if_icmp .ne 7, 3) := by decide +kernel
theorem own_pd0 : parseMethodDescriptor "(I)I" = some ⟨[.int], some .int⟩ := by decide +kernel
theorem own_pd1 : parseMethodDescriptor "(I)Z" = some ⟨[.int], some .boolean⟩ := by decide +kernel
theorem own_pn0 : plainName "com/example/wirecraft/wirecraft/protocols/otc/OtcCodec$Flag" = true := by first | (simp [plainName, overriddenIn]; done) | decide +kernel
theorem own_pn1 : plainName "com/example/wirecraft/wirecraft/protocols/otc/FlagOfPinLaw" = true := by first | (simp [plainName, overriddenIn]; done) | decide +kernel
def QL (n0 : Nat) (v : Option Value) (h : Heap) (L : List Loc) : Prop := v = some (.int 1) ∧ Fr n0 L
theorem own_mulc {x c : Int32} {k : Int} (hc : c.toInt = k) (h1 : -2 ^ 31 ≤ k * x.toInt) (h2 : k * x.toInt < 2 ^ 31) : (c * x).toInt = k * x.toInt := by
  rw [Jvm.Kit.i32_mul (by rw [hc]; exact h1) (by rw [hc]; exact h2), hc]
theorem own_mulcL {x c : Int64} {k : Int} (hc : c.toInt = k) (h1 : -2 ^ 63 ≤ k * x.toInt) (h2 : k * x.toInt < 2 ^ 63) : (c * x).toInt = k * x.toInt := by
  rw [Jvm.Kit.i64_mul (by rw [hc]; exact h1) (by rw [hc]; exact h2), hc]
theorem own_addc {x c : Int32} {k : Int} (hc : c.toInt = k) (h1 : -2 ^ 31 ≤ k + x.toInt) (h2 : k + x.toInt < 2 ^ 31) : (c + x).toInt = k + x.toInt := by
  rw [Jvm.Kit.i32_add (by rw [hc]; exact h1) (by rw [hc]; exact h2), hc]
theorem own_caddr {x c : Int32} {k : Int} (hc : c.toInt = k) (h1 : -2 ^ 31 ≤ x.toInt + k) (h2 : x.toInt + k < 2 ^ 31) : (x + c).toInt = x.toInt + k := by
  rw [Jvm.Kit.i32_add (by rw [hc]; exact h1) (by rw [hc]; exact h2), hc]
theorem own_intv {args : Array Value} {Z : State} {t : Term} {k : Int32} (h : (Cond.eq t (.int k)).value args Z none Z [] = some true) : t.eval args Z none [] Z = some (.int k) := by
  obtain ⟨x, y, e1, e2, -, k2⟩ := cmp_v (Or.inl h)
  have e2' : some (Value.int k) = some y := e2
  cases e2'
  obtain ⟨z, rfl⟩ := k2
  have q := gotT (Cond.eq_ints e1 (Term.int_eval k)) h
  rw [← q]; exact e1
theorem own_fldI {args : Array Value} {Z : State} {t : Term} {C n d : String} {k : Int32} {a : Addr} (ht : t.eval args Z none [] Z = some (.ref a)) (h : (Cond.eq (.field t C n d) (.int k)).value args Z none Z [] = some true) : Fld Z Z.heap a C n d (.int k) :=
  Fld.start ((fld_at ht).symm.trans (own_intv h))
def own_of (p s b : Int32) : Int32 := ((p.toUInt32 >>> (s &&& 31).toUInt32).toInt32) &&& (((1 : Int32) <<< (b &&& 31)) - (1 : Int32))
theorem own_shr (p : Int32) (s : UInt32) (k : Nat) (hs : s.toNat = k) (hk : k < 32) : ((p.toUInt32 >>> s).toInt32).toInt % 2 ^ 32 = (p.toInt % 2 ^ 32) / 2 ^ k := by
  have e2 : ((p.toUInt32 >>> s).toInt32).toBitVec.toNat = p.toBitVec.toNat / 2 ^ k := by
    simp only [UInt32.toBitVec_toInt32, UInt32.toBitVec_shiftRight, Int32.toBitVec_toUInt32]
    rw [BitVec.ushiftRight_eq', BitVec.toNat_ushiftRight, Nat.shiftRight_eq_div_pow]
    have : (s.toBitVec % 32).toNat = k := by
      have h1 : s.toBitVec.toNat = k := hs
      rw [BitVec.toNat_umod, h1]
      exact Nat.mod_eq_of_lt hk
    rw [this]
  have a : ∀ y : Int32, y.toInt % 2 ^ 32 = (y.toBitVec.toNat : Int) := fun y => by
    have h : y.toInt = (y.toBitVec.toNat : Int).bmod (2 ^ 32) := BitVec.toInt_eq_toNat_bmod y.toBitVec
    have hb := y.toBitVec.isLt
    rw [h, Int.bmod_def]
    split <;> omega
  rw [a, a, e2]
  simp
theorem own_bits (p : Int32) {s b m : Int32} {k j : Nat} (hs : (s &&& 31).toUInt32.toNat = k) (hk : k < 32) (hm : (((1 : Int32) <<< (b &&& 31)) - (1 : Int32)) = m) (hj : j = 1 ∨ j = 3) (hm' : m = if j = 1 then 1 else 7) : (own_of p s b).toInt = ((p.toInt % 2 ^ 32) / 2 ^ k) % 2 ^ j := by
  have h := own_shr p (s &&& 31).toUInt32 k hs hk
  unfold own_of
  rw [hm, hm']
  rcases hj with rfl | rfl
  · rw [if_pos rfl, Jvm.Kit.i32_mask _ 1 (k := 1) (by decide) (by decide)]; omega
  · rw [if_neg (by decide), Jvm.Kit.i32_mask _ 7 (k := 3) (by decide) (by decide)]; omega
theorem own_b0 {x : Int32} (h : x.toInt = 0 ∨ x.toInt = 1) : x = 0 ∨ x = 1 := by
  rw [← Int32.toInt_inj, ← Int32.toInt_inj]; exact h
theorem own_sum {a b c d e r : Int32} (ha : 0 ≤ a.toInt ∧ a.toInt ≤ 1) (hb : 0 ≤ b.toInt ∧ b.toInt ≤ 1) (hc : 0 ≤ c.toInt ∧ c.toInt ≤ 1) (hd : 0 ≤ d.toInt ∧ d.toInt ≤ 1) (he : 0 ≤ e.toInt ∧ e.toInt ≤ 1) (hr : 0 ≤ r.toInt ∧ r.toInt ≤ 7) :
    (((((a + ((2 : Int32) * b)) + ((4 : Int32) * c)) + ((8 : Int32) * d)) + ((16 : Int32) * e)) + ((32 : Int32) * r)).toInt = a.toInt + 2 * b.toInt + 4 * c.toInt + 8 * d.toInt + 16 * e.toInt + 32 * r.toInt := by
  have m2 : ((2 : Int32) * b).toInt = 2 * b.toInt := own_mulc (by decide) (by omega) (by omega)
  have m4 : ((4 : Int32) * c).toInt = 4 * c.toInt := own_mulc (by decide) (by omega) (by omega)
  have m8 : ((8 : Int32) * d).toInt = 8 * d.toInt := own_mulc (by decide) (by omega) (by omega)
  have m16 : ((16 : Int32) * e).toInt = 16 * e.toInt := own_mulc (by decide) (by omega) (by omega)
  have m32 : ((32 : Int32) * r).toInt = 32 * r.toInt := own_mulc (by decide) (by omega) (by omega)
  have s1 : (a + ((2 : Int32) * b)).toInt = a.toInt + 2 * b.toInt := by rw [Jvm.Kit.i32_add (by omega) (by omega), m2]
  have s2 : ((a + ((2 : Int32) * b)) + ((4 : Int32) * c)).toInt = a.toInt + 2 * b.toInt + 4 * c.toInt := by rw [Jvm.Kit.i32_add (by omega) (by omega), s1, m4]
  have s3 : (((a + ((2 : Int32) * b)) + ((4 : Int32) * c)) + ((8 : Int32) * d)).toInt = a.toInt + 2 * b.toInt + 4 * c.toInt + 8 * d.toInt := by rw [Jvm.Kit.i32_add (by omega) (by omega), s2, m8]
  have s4 : ((((a + ((2 : Int32) * b)) + ((4 : Int32) * c)) + ((8 : Int32) * d)) + ((16 : Int32) * e)).toInt = a.toInt + 2 * b.toInt + 4 * c.toInt + 8 * d.toInt + 16 * e.toInt := by rw [Jvm.Kit.i32_add (by omega) (by omega), s3, m16]
  rw [Jvm.Kit.i32_add (by omega) (by omega), s4, m32]
theorem own_dig (n : Int) (h : 0 ≤ n) : n / 2 ^ 0 % 2 ^ 1 + 2 * (n / 2 ^ 1 % 2 ^ 1) + 4 * (n / 2 ^ 2 % 2 ^ 1) + 8 * (n / 2 ^ 3 % 2 ^ 1) + 16 * (n / 2 ^ 4 % 2 ^ 1) + 32 * (n / 2 ^ 5 % 2 ^ 3) = n % 256 := by
  have e1 : n / 2 ^ 0 = n := by omega
  have e2 : n / 2 ^ 2 = (n / 2) / 2 := by omega
  have e3 : n / 2 ^ 3 = (n / 2 / 2) / 2 := by omega
  have e4 : n / 2 ^ 4 = (n / 2 / 2 / 2) / 2 := by omega
  have e5 : n / 2 ^ 5 = (n / 2 / 2 / 2 / 2) / 2 := by omega
  rw [e1, e2, e3, e4, e5]
  omega
theorem own_fin {a b c d e r f : Int32} {n : Int} (hn : n = f.toInt % 2 ^ 32) (ha : a.toInt = n / 2 ^ 0 % 2 ^ 1) (hb : b.toInt = n / 2 ^ 1 % 2 ^ 1) (hc : c.toInt = n / 2 ^ 2 % 2 ^ 1) (hd : d.toInt = n / 2 ^ 3 % 2 ^ 1) (he : e.toInt = n / 2 ^ 4 % 2 ^ 1) (hr : r.toInt = n / 2 ^ 5 % 2 ^ 3) :
    (((((a + ((2 : Int32) * b)) + ((4 : Int32) * c)) + ((8 : Int32) * d)) + ((16 : Int32) * e)) + ((32 : Int32) * r)) = (f &&& (255 : Int32)) := by
  have h255 : (f &&& (255 : Int32)).toInt = f.toInt % 2 ^ 8 := Jvm.Kit.i32_mask f 255 (k := 8) (by decide) (by decide)
  have two : ∀ q : Int, 0 ≤ q % 2 ^ 1 ∧ q % 2 ^ 1 ≤ 1 := fun q => by omega
  have eight : ∀ q : Int, 0 ≤ q % 2 ^ 3 ∧ q % 2 ^ 3 ≤ 7 := fun q => by omega
  apply Int32.toInt_inj.mp
  rw [own_sum (ha ▸ two _) (hb ▸ two _) (hc ▸ two _) (hd ▸ two _) (he ▸ two _) (hr ▸ eight _), ha, hb, hc, hd, he, hr, own_dig n (by omega), h255]
  omega
theorem own_r7 {r : Int32} {n : Int} (h : r.toInt = n / 2 ^ 5 % 2 ^ 3) : ¬ (r < (0 : Int32)) ∧ ¬ ((7 : Int32) < r) := by
  have t7 : (7 : Int32).toInt = 7 := by decide
  have t0 : (0 : Int32).toInt = 0 := by decide
  rw [Int32.lt_iff_toInt_lt, Int32.lt_iff_toInt_lt, t7, t0]; omega
theorem own_ef_rm1 (m : MethodId) (y0 : Addr) (y1 : Int32) : entryFrame m #[(.ref y0), (.int y1)] 2 = mkF m 0 #[.val (.ref y0), .val (.int y1)] [] := by first | (simp [entryFrame, mkF, argsToLocals, Value.category]; done) | rfl
set_option maxRecDepth 65536 in
set_option maxHeartbeats 40000000 in
theorem rm1 (l : Launch) (Z : State) (a0 : Array Value) (hw : ∀ d ∈ tables_1, d.before a0 Z = true) (ws : List Jvm.Cond) (a1 : Addr) (p1 s1 b1 : Int32) (h0 : Heap) (n0 : Nat) (Z0 : n0 ≤ h0.size) (Fs : Fld Z h0 a1 "com/example/wirecraft/wirecraft/protocols/otc/OtcCodec$Flag" "shift" "I" (.int s1)) (Fb : Fld Z h0 a1 "com/example/wirecraft/wirecraft/protocols/otc/OtcCodec$Flag" "bits" "I" (.int b1)) :
    MetFree l (⟨"com/example/wirecraft/wirecraft/protocols/otc/OtcCodec$Flag", "of", "(I)I"⟩ : MethodName) (head1 (Jvm.Cond.code (⟨"com/example/wirecraft/wirecraft/protocols/otc/OtcCodec$Flag", "of", "(I)I"⟩ : MethodName) prog_60_method_5_code 2 (some .int) :: ws) ({ frames := 0, cells := 0, slots := 0, locals := 0 } : Room)) (fun a U => a = #[(.ref a1), (.int p1)] ∧ Z.Warmed39 U.vm ∧ U.heap = h0) (fun _ _ _ _ _ => True) (fun _ U o U' => ∃ v L, o = .returned v ∧ QP (.int (own_of p1 s1 b1)) h0 n0 v U'.heap L ∧ FrameEnd U o U' L ({ frames := 0, cells := 0, slots := 0, locals := 0 } : Room).cells ({ frames := 0, cells := 0, slots := 0, locals := 0 } : Room).slots) := by
  refine MetFree.of_bodySF (plainFor_of_name own_pn0) hisR ?_
  intro p e s m args below meth c s₁ Bd hml0 hP hK
  obtain ⟨rfl, hZ, hh⟩ := hP
  have hx := Bd.exec
  have hby := Bd.bytes
  have hml : c.maxLocals = 2 := hml0
  have hown : s.vm.findClass "com/example/wirecraft/wirecraft/protocols/otc/OtcCodec$Flag" = some m.cls := findClass_of_methodNamed Bd.named
  have hnm := (name_of_methodNamed Bd.named Bd.method).1
  have X0 : Stand p l e ({ frames := 0, cells := 0, slots := 0, locals := 0 } : Room) s m #[(.ref a1), (.int p1)] below meth c s₁ [] 0 0 := Stand.of_body Bd
  have e0 : s₁.heap = h0 := by rw [← hh, Bd.state]; rfl
  have N0 := Fr.nil n0
  have pre0 : ∀ t, Steps p.tables e below (s₁.setTop (mkF m 0 #[.val (.ref a1), .val (.int p1)] [])) t → Steps p.tables e below (s₁.setTop (entryFrame m #[(.ref a1), (.int p1)] 2)) t := fun t k => castTop (own_ef_rm1 m a1 p1) k
  obtain ⟨T1, X1, e1, st1⟩ := getF X0 hx hZ hown (host := "") (Or.inl (hw _ (List.mem_of_getElem? (i := 8) rfl))) Via.refl e0 Fs (g := (mkF m 2 #[.val (.ref a1), .val (.int p1)] [(.ref a1), (.int p1)])) rfl rfl (hb hby own_d_prog_60_method_5_code_2)
  obtain ⟨T2, X2, e2, st2⟩ := getF X1 hx hZ hown (host := "") (Or.inl (hw _ (List.mem_of_getElem? (i := 10) rfl))) Via.refl e1 Fb (g := (mkF m 8 #[.val (.ref a1), .val (.int p1)] [(.ref a1), (.int (1 : Int32)), (.int ((p1.toUInt32 >>> (s1 &&& 31).toUInt32).toInt32))])) rfl rfl (hb hby own_d_prog_60_method_5_code_8)
  have pre3 : ∀ t, Steps p.tables e below (T2.setTop (mkF m 15 #[.val (.ref a1), .val (.int p1)] [(.int (((p1.toUInt32 >>> (s1 &&& 31).toUInt32).toInt32) &&& (((1 : Int32) <<< (b1 &&& 31)) - (1 : Int32))))])) t → Steps p.tables e below (s₁.setTop (entryFrame m #[(.ref a1), (.int p1)] 2)) t := fun t k => pre0 t (by
    show Steps p.tables e below (s₁.setTop (mkF m 0 #[.val (.ref a1), .val (.int p1)] [])) _
    refine XS.iloadN X0.here hx rfl (hb hby own_d_prog_60_method_5_code_0) rfl ?_
    show Steps p.tables e below (s₁.setTop (mkF m 1 #[.val (.ref a1), .val (.int p1)] [(.int p1)])) _
    refine XS.aloadN X0.here hx rfl (hb hby own_d_prog_60_method_5_code_1) rfl rfl ?_
    show Steps p.tables e below (s₁.setTop (mkF m 2 #[.val (.ref a1), .val (.int p1)] [(.ref a1), (.int p1)])) _
    refine st1 _ ?_
    show Steps p.tables e below (T1.setTop (mkF m 5 #[.val (.ref a1), .val (.int p1)] [(.int s1), (.int p1)])) _
    refine XS.iushr X1.here hx rfl (hb hby own_d_prog_60_method_5_code_5) rfl ?_
    show Steps p.tables e below (T1.setTop (mkF m 6 #[.val (.ref a1), .val (.int p1)] [(.int ((p1.toUInt32 >>> (s1 &&& 31).toUInt32).toInt32))])) _
    refine XS.iconst X1.here hx rfl (hb hby own_d_prog_60_method_5_code_6) ?_
    show Steps p.tables e below (T1.setTop (mkF m 7 #[.val (.ref a1), .val (.int p1)] [(.int (1 : Int32)), (.int ((p1.toUInt32 >>> (s1 &&& 31).toUInt32).toInt32))])) _
    refine XS.aloadN X1.here hx rfl (hb hby own_d_prog_60_method_5_code_7) rfl rfl ?_
    show Steps p.tables e below (T1.setTop (mkF m 8 #[.val (.ref a1), .val (.int p1)] [(.ref a1), (.int (1 : Int32)), (.int ((p1.toUInt32 >>> (s1 &&& 31).toUInt32).toInt32))])) _
    refine st2 _ ?_
    show Steps p.tables e below (T2.setTop (mkF m 11 #[.val (.ref a1), .val (.int p1)] [(.int b1), (.int (1 : Int32)), (.int ((p1.toUInt32 >>> (s1 &&& 31).toUInt32).toInt32))])) _
    refine XS.ishl X2.here hx rfl (hb hby own_d_prog_60_method_5_code_11) rfl ?_
    show Steps p.tables e below (T2.setTop (mkF m 12 #[.val (.ref a1), .val (.int p1)] [(.int ((1 : Int32) <<< (b1 &&& 31))), (.int ((p1.toUInt32 >>> (s1 &&& 31).toUInt32).toInt32))])) _
    refine XS.iconst X2.here hx rfl (hb hby own_d_prog_60_method_5_code_12) ?_
    show Steps p.tables e below (T2.setTop (mkF m 13 #[.val (.ref a1), .val (.int p1)] [(.int (1 : Int32)), (.int ((1 : Int32) <<< (b1 &&& 31))), (.int ((p1.toUInt32 >>> (s1 &&& 31).toUInt32).toInt32))])) _
    refine XS.isub X2.here hx rfl (hb hby own_d_prog_60_method_5_code_13) rfl ?_
    show Steps p.tables e below (T2.setTop (mkF m 14 #[.val (.ref a1), .val (.int p1)] [(.int (((1 : Int32) <<< (b1 &&& 31)) - (1 : Int32))), (.int ((p1.toUInt32 >>> (s1 &&& 31).toUInt32).toInt32))])) _
    refine XS.iand X2.here hx rfl (hb hby own_d_prog_60_method_5_code_14) rfl ?_
    exact k)
  obtain ⟨fs, hr, hrun, hended, hW, hsame⟩ := X2.leave (v := some (.int (((p1.toUInt32 >>> (s1 &&& 31).toUInt32).toInt32) &&& (((1 : Int32) <<< (b1 &&& 31)) - (1 : Int32))))) (fun h => by rw [Bd.returns] at h; cases h)
  refine ⟨_, _, pre3 _ ?_, hrun, hended, _, _, rfl, ?_, ⟨_, rfl⟩, hW, hsame.mono (by decide) (by decide)⟩
  · show Steps p.tables e below (T2.setTop (mkF m 15 #[.val (.ref a1), .val (.int p1)] [(.int (((p1.toUInt32 >>> (s1 &&& 31).toUInt32).toInt32) &&& (((1 : Int32) <<< (b1 &&& 31)) - (1 : Int32))))])) _
    exact retI X2 hx Bd.returns (hb hby own_d_prog_60_method_5_code_15) hr
  · show QP (.int (own_of p1 s1 b1)) h0 n0 _ T2.heap _
    rw [e2]
    exact ⟨rfl, N0, rfl⟩
theorem own_ef_rm2 (m : MethodId) (y0 : Int32) : entryFrame m #[(.int y0)] 1 = mkF m 0 #[.val (.int y0)] [] := by first | (simp [entryFrame, mkF, argsToLocals, Value.category]; done) | rfl
set_option maxRecDepth 65536 in
set_option maxHeartbeats 40000000 in
theorem rm2 (l : Launch) (Z : State) (a0 : Array Value) (hw : ∀ d ∈ tables_1, d.before a0 Z = true) (ws : List Jvm.Cond) (p1 : Int32) (h0 : Heap) (n0 : Nat) (Z0 : n0 ≤ h0.size) (hbi : p1 = 0 ∨ p1 = 1) :
    MetFree l (⟨"com/example/wirecraft/wirecraft/protocols/otc/FlagOfPinLaw", "bit", "(I)Z"⟩ : MethodName) (head1 (Jvm.Cond.code (⟨"com/example/wirecraft/wirecraft/protocols/otc/FlagOfPinLaw", "bit", "(I)Z"⟩ : MethodName) method_3_code 1 (some .boolean) :: ws) ({ frames := 0, cells := 0, slots := 0, locals := 0 } : Room)) (fun a U => a = #[(.int p1)] ∧ Z.Warmed39 U.vm ∧ U.heap = h0) (fun _ _ _ _ _ => True) (fun _ U o U' => ∃ v L, o = .returned v ∧ QP (.int (1 : Int32)) h0 n0 v U'.heap L ∧ FrameEnd U o U' L ({ frames := 0, cells := 0, slots := 0, locals := 0 } : Room).cells ({ frames := 0, cells := 0, slots := 0, locals := 0 } : Room).slots) := by
  refine MetFree.of_bodySF (plainFor_of_name own_pn1) hisR ?_
  intro p e s m args below meth c s₁ Bd hml0 hP hK
  obtain ⟨rfl, hZ, hh⟩ := hP
  have hx := Bd.exec
  have hby := Bd.bytes
  have hml : c.maxLocals = 1 := hml0
  have hown : s.vm.findClass "com/example/wirecraft/wirecraft/protocols/otc/FlagOfPinLaw" = some m.cls := findClass_of_methodNamed Bd.named
  have hnm := (name_of_methodNamed Bd.named Bd.method).1
  have X0 : Stand p l e ({ frames := 0, cells := 0, slots := 0, locals := 0 } : Room) s m #[(.int p1)] below meth c s₁ [] 0 0 := Stand.of_body Bd
  have e0 : s₁.heap = h0 := by rw [← hh, Bd.state]; rfl
  have N0 := Fr.nil n0
  have pre0 : ∀ t, Steps p.tables e below (s₁.setTop (mkF m 0 #[.val (.int p1)] [])) t → Steps p.tables e below (s₁.setTop (entryFrame m #[(.int p1)] 1)) t := fun t k => castTop (own_ef_rm2 m p1) k
  have pre1 : ∀ t, Steps p.tables e below (s₁.setTop (mkF m 1 #[.val (.int p1)] [(.int p1)])) t → Steps p.tables e below (s₁.setTop (entryFrame m #[(.int p1)] 1)) t := fun t k => pre0 t (by
    show Steps p.tables e below (s₁.setTop (mkF m 0 #[.val (.int p1)] [])) _
    refine XS.iloadN X0.here hx rfl (hb hby own_d_method_3_code_0) rfl ?_
    exact k)
  rcases hbi with hbi | hbi
  · have pre2 : ∀ t, Steps p.tables e below (s₁.setTop (mkF m 14 #[.val (.int p1)] [(.int (1 : Int32))])) t → Steps p.tables e below (s₁.setTop (entryFrame m #[(.int p1)] 1)) t := fun t k => pre1 t (by
      show Steps p.tables e below (s₁.setTop (mkF m 1 #[.val (.int p1)] [(.int p1)])) _
      refine XS.ifYes X0.here hx rfl (pc0 := 1) (pc' := 9) rfl (hb hby own_d_method_3_code_1) rfl ((if0 _ _).trans (teq (hbi : p1 = (0 : Int32))).1) (by decide) (by decide) ?_
      show Steps p.tables e below (s₁.setTop (mkF m 9 #[.val (.int p1)] [])) _
      refine XS.iconst X0.here hx rfl (hb hby own_d_method_3_code_9) ?_
      show Steps p.tables e below (s₁.setTop (mkF m 10 #[.val (.int p1)] [(.int (1 : Int32))])) _
      refine XS.goto X0.here hx rfl (pc0 := 10) (pc' := 14) rfl (hb hby own_d_method_3_code_10) (by decide) (by decide) ?_
      exact k)
    obtain ⟨fs, hr, hrun, hended, hW, hsame⟩ := X0.leave (v := some (.int (nar .boolean (1 : Int32)))) (fun h => by rw [Bd.returns] at h; cases h)
    refine ⟨_, _, pre2 _ ?_, hrun, hended, _, _, rfl, ?_, ⟨_, rfl⟩, hW, hsame.mono (by decide) (by decide)⟩
    · show Steps p.tables e below (s₁.setTop (mkF m 14 #[.val (.int p1)] [(.int (1 : Int32))])) _
      exact retN X0 hx (t := .boolean) Bd.returns (by simp) (hb hby own_d_method_3_code_14) hr
    · show QP (.int (1 : Int32)) h0 n0 _ s₁.heap _
      rw [e0]
      exact ⟨rfl, N0, rfl⟩
  · have pre3 : ∀ t, Steps p.tables e below (s₁.setTop (mkF m 14 #[.val (.int p1)] [(.int (1 : Int32))])) t → Steps p.tables e below (s₁.setTop (entryFrame m #[(.int p1)] 1)) t := fun t k => pre1 t (by
      show Steps p.tables e below (s₁.setTop (mkF m 1 #[.val (.int p1)] [(.int p1)])) _
      refine XS.ifNo X0.here hx rfl (hb hby own_d_method_3_code_1) rfl ((if0 _ _).trans (feq ((by subst hbi; decide) : ¬ (p1 = (0 : Int32)))).1) ?_
      show Steps p.tables e below (s₁.setTop (mkF m 4 #[.val (.int p1)] [])) _
      refine XS.iloadN X0.here hx rfl (hb hby own_d_method_3_code_4) rfl ?_
      show Steps p.tables e below (s₁.setTop (mkF m 5 #[.val (.int p1)] [(.int p1)])) _
      refine XS.iconst X0.here hx rfl (hb hby own_d_method_3_code_5) ?_
      show Steps p.tables e below (s₁.setTop (mkF m 6 #[.val (.int p1)] [(.int (1 : Int32)), (.int p1)])) _
      refine XS.icmpNo X0.here hx rfl (hb hby own_d_method_3_code_6) rfl (teq (hbi : p1 = (1 : Int32))).2 ?_
      show Steps p.tables e below (s₁.setTop (mkF m 9 #[.val (.int p1)] [])) _
      refine XS.iconst X0.here hx rfl (hb hby own_d_method_3_code_9) ?_
      show Steps p.tables e below (s₁.setTop (mkF m 10 #[.val (.int p1)] [(.int (1 : Int32))])) _
      refine XS.goto X0.here hx rfl (pc0 := 10) (pc' := 14) rfl (hb hby own_d_method_3_code_10) (by decide) (by decide) ?_
      exact k)
    obtain ⟨fs, hr, hrun, hended, hW, hsame⟩ := X0.leave (v := some (.int (nar .boolean (1 : Int32)))) (fun h => by rw [Bd.returns] at h; cases h)
    refine ⟨_, _, pre3 _ ?_, hrun, hended, _, _, rfl, ?_, ⟨_, rfl⟩, hW, hsame.mono (by decide) (by decide)⟩
    · show Steps p.tables e below (s₁.setTop (mkF m 14 #[.val (.int p1)] [(.int (1 : Int32))])) _
      exact retN X0 hx (t := .boolean) Bd.returns (by simp) (hb hby own_d_method_3_code_14) hr
    · show QP (.int (1 : Int32)) h0 n0 _ s₁.heap _
      rw [e0]
      exact ⟨rfl, N0, rfl⟩
theorem own_ef_rm0 (m : MethodId) (y0 : Int32) : entryFrame m #[(.int y0)] maxLocals = mkF m 0 #[.val (.int y0), .unset, .unset, .unset, .unset, .unset, .unset, .unset, .unset] [] := by first | (simp [entryFrame, mkF, argsToLocals, Value.category, maxLocals]; done) | rfl
set_option maxRecDepth 65536 in
set_option maxHeartbeats 40000000 in
theorem rm0 (l : Launch) (Z : State) (a0 : Array Value) (hw : ∀ d ∈ tables_1, d.before a0 Z = true) (ws : List Jvm.Cond) (p1 : Int32) (a_LZ77 : Addr) (a_SM4 : Addr) (a_AES256 : Addr) (a_SM3 : Addr) (a_SHA1 : Addr) (a_RESERVED : Addr) (h0 : Heap) (n0 : Nat) (Z0 : n0 ≤ h0.size) (S_LZ77 : Sta Z h0 "com/example/wirecraft/wirecraft/protocols/otc/OtcCodec$Flag" "LZ77" "Lcom/example/wirecraft/wirecraft/protocols/otc/OtcCodec$Flag;" (.ref a_LZ77)) (E_LZ77 : Exa Z h0 a_LZ77 "com/example/wirecraft/wirecraft/protocols/otc/OtcCodec$Flag") (S_SM4 : Sta Z h0 "com/example/wirecraft/wirecraft/protocols/otc/OtcCodec$Flag" "SM4" "Lcom/example/wirecraft/wirecraft/protocols/otc/OtcCodec$Flag;" (.ref a_SM4)) (E_SM4 : Exa Z h0 a_SM4 "com/example/wirecraft/wirecraft/protocols/otc/OtcCodec$Flag") (S_AES256 : Sta Z h0 "com/example/wirecraft/wirecraft/protocols/otc/OtcCodec$Flag" "AES256" "Lcom/example/wirecraft/wirecraft/protocols/otc/OtcCodec$Flag;" (.ref a_AES256)) (E_AES256 : Exa Z h0 a_AES256 "com/example/wirecraft/wirecraft/protocols/otc/OtcCodec$Flag") (S_SM3 : Sta Z h0 "com/example/wirecraft/wirecraft/protocols/otc/OtcCodec$Flag" "SM3" "Lcom/example/wirecraft/wirecraft/protocols/otc/OtcCodec$Flag;" (.ref a_SM3)) (E_SM3 : Exa Z h0 a_SM3 "com/example/wirecraft/wirecraft/protocols/otc/OtcCodec$Flag") (S_SHA1 : Sta Z h0 "com/example/wirecraft/wirecraft/protocols/otc/OtcCodec$Flag" "SHA1" "Lcom/example/wirecraft/wirecraft/protocols/otc/OtcCodec$Flag;" (.ref a_SHA1)) (E_SHA1 : Exa Z h0 a_SHA1 "com/example/wirecraft/wirecraft/protocols/otc/OtcCodec$Flag") (S_RESERVED : Sta Z h0 "com/example/wirecraft/wirecraft/protocols/otc/OtcCodec$Flag" "RESERVED" "Lcom/example/wirecraft/wirecraft/protocols/otc/OtcCodec$Flag;" (.ref a_RESERVED)) (E_RESERVED : Exa Z h0 a_RESERVED "com/example/wirecraft/wirecraft/protocols/otc/OtcCodec$Flag") (F_LZ77_shift : Fld Z h0 a_LZ77 "com/example/wirecraft/wirecraft/protocols/otc/OtcCodec$Flag" "shift" "I" (.int (0 : Int32))) (F_LZ77_bits : Fld Z h0 a_LZ77 "com/example/wirecraft/wirecraft/protocols/otc/OtcCodec$Flag" "bits" "I" (.int (1 : Int32))) (F_SM4_shift : Fld Z h0 a_SM4 "com/example/wirecraft/wirecraft/protocols/otc/OtcCodec$Flag" "shift" "I" (.int (1 : Int32))) (F_SM4_bits : Fld Z h0 a_SM4 "com/example/wirecraft/wirecraft/protocols/otc/OtcCodec$Flag" "bits" "I" (.int (1 : Int32))) (F_AES256_shift : Fld Z h0 a_AES256 "com/example/wirecraft/wirecraft/protocols/otc/OtcCodec$Flag" "shift" "I" (.int (2 : Int32))) (F_AES256_bits : Fld Z h0 a_AES256 "com/example/wirecraft/wirecraft/protocols/otc/OtcCodec$Flag" "bits" "I" (.int (1 : Int32))) (F_SM3_shift : Fld Z h0 a_SM3 "com/example/wirecraft/wirecraft/protocols/otc/OtcCodec$Flag" "shift" "I" (.int (3 : Int32))) (F_SM3_bits : Fld Z h0 a_SM3 "com/example/wirecraft/wirecraft/protocols/otc/OtcCodec$Flag" "bits" "I" (.int (1 : Int32))) (F_SHA1_shift : Fld Z h0 a_SHA1 "com/example/wirecraft/wirecraft/protocols/otc/OtcCodec$Flag" "shift" "I" (.int (4 : Int32))) (F_SHA1_bits : Fld Z h0 a_SHA1 "com/example/wirecraft/wirecraft/protocols/otc/OtcCodec$Flag" "bits" "I" (.int (1 : Int32))) (F_RESERVED_shift : Fld Z h0 a_RESERVED "com/example/wirecraft/wirecraft/protocols/otc/OtcCodec$Flag" "shift" "I" (.int (5 : Int32))) (F_RESERVED_bits : Fld Z h0 a_RESERVED "com/example/wirecraft/wirecraft/protocols/otc/OtcCodec$Flag" "bits" "I" (.int (3 : Int32))) :
    MetFree l x (head1 (Jvm.Cond.code x code maxLocals ret :: ws) room_1) (fun a U => a = #[(.int p1)] ∧ Z.Warmed39 U.vm ∧ U.heap = h0) (fun _ _ _ _ _ => True) (fun _ U o U' => ∃ v L, o = .returned v ∧ QL n0 v U'.heap L ∧ FrameEnd U o U' L 0 0) := by
  refine MetFree.of_bodySF (plainFor_of_name own_pn1) hisR ?_
  intro p e s m args below meth c s₁ Bd hml0 hP hK
  obtain ⟨rfl, hZ, hh⟩ := hP
  have hx := Bd.exec
  have hby := Bd.bytes
  have hml : c.maxLocals = 9 := hml0
  have hown : s.vm.findClass "com/example/wirecraft/wirecraft/protocols/otc/FlagOfPinLaw" = some m.cls := findClass_of_methodNamed Bd.named
  have hnm := (name_of_methodNamed Bd.named Bd.method).1
  have X0 : Stand p l e room_1 s m #[(.int p1)] below meth c s₁ [] 0 0 := Stand.of_body Bd
  have e0 : s₁.heap = h0 := by rw [← hh, Bd.state]; rfl
  have N0 := Fr.nil n0
  have pre0 : ∀ t, Steps p.tables e below (s₁.setTop (mkF m 0 #[.val (.int p1), .unset, .unset, .unset, .unset, .unset, .unset, .unset, .unset] [])) t → Steps p.tables e below (s₁.setTop (entryFrame m #[(.int p1)] maxLocals)) t := fun t k => castTop (own_ef_rm0 m p1) k
  have hLZ77 := own_bits p1 (s := 0) (b := 1) (k := 0) (j := 1) (by decide +kernel) (by decide) rfl (by decide) (by decide +kernel)
  have hSM4 := own_bits p1 (s := 1) (b := 1) (k := 1) (j := 1) (by decide +kernel) (by decide) rfl (by decide) (by decide +kernel)
  have hAES256 := own_bits p1 (s := 2) (b := 1) (k := 2) (j := 1) (by decide +kernel) (by decide) rfl (by decide) (by decide +kernel)
  have hSM3 := own_bits p1 (s := 3) (b := 1) (k := 3) (j := 1) (by decide +kernel) (by decide) rfl (by decide) (by decide +kernel)
  have hSHA1 := own_bits p1 (s := 4) (b := 1) (k := 4) (j := 1) (by decide +kernel) (by decide) rfl (by decide) (by decide +kernel)
  have hRESERVED := own_bits p1 (s := 5) (b := 3) (k := 5) (j := 3) (by decide +kernel) (by decide) rfl (by decide) (by decide +kernel)
  obtain ⟨T1, X1, e1, st1⟩ := getS2 X0 hx hZ hown (host := "") (Or.inl (hw _ (List.mem_of_getElem? (i := 0) rfl))) Via.refl e0 S_LZ77 (g := (mkF m 0 #[.val (.int p1), .unset, .unset, .unset, .unset, .unset, .unset, .unset, .unset] [])) rfl (hb hby at_0)
  obtain ⟨cq2, kq2, q2a, q2b, q2c⟩ := isOf hZ e1 E_LZ77
  obtain ⟨_, _, ⟨T2, L2, k2, n2⟩, -, X2, ⟨Lc2, hQ2, l2, y2, z2⟩, st2⟩ := X1.virtualBack hx (y := (⟨"com/example/wirecraft/wirecraft/protocols/otc/OtcCodec$Flag", "of", "(I)I"⟩ : MethodName)) (z := (⟨"com/example/wirecraft/wirecraft/protocols/otc/OtcCodec$Flag", "of", "(I)I"⟩ : MethodName)) hown (mvT hZ (hw _ (List.mem_of_getElem? (i := 3) rfl))) (mvT hZ (hw _ (List.mem_of_getElem? (i := 4) rfl))) (notFace_of_selects (args := #[]) (mvT hZ (hw _ (List.mem_of_getElem? (i := 6) rfl)))) (mvT hZ (hw _ (List.mem_of_getElem? (i := 6) rfl))) (mvT hZ (hw _ (List.mem_of_getElem? (i := 5) rfl))) (by decide) (backOf (W := 0) (rm1 l Z a0 hw [] a_LZ77 p1 (0 : Int32) (1 : Int32) h0 n0 Z0 F_LZ77_shift F_LZ77_bits) hZ (hw _ (List.mem_of_getElem? (i := 7) rfl)) (hw _ (List.mem_of_getElem? (i := 1) rfl)) (by decide) (by decide)) q2a q2c (g := (mkF m 4 #[.val (.int p1), .unset, .unset, .unset, .unset, .unset, .unset, .unset, .unset] [(.int p1), (.ref a_LZ77)])) rfl (by rw [hml]; rfl) (Steps.refl _) (argsL := [(.int p1)]) (rest := []) (lenOf own_pd0 rfl) rfl (by show 2 * 0 + _ ≤ _; exact Nat.le_of_eq rfl) (hb hby at_4) (fun _ _ => ⟨rfl, e1, (by decide : 0 + 0 ≤ _), (by decide : 0 + 0 ≤ _)⟩)
  dsimp only [Pt.U, Pt.locs, Pt.cells, Pt.slots] at X2 l2 y2 z2 st2 hQ2
  subst l2 y2 z2
  obtain ⟨rfl, N2q, e2⟩ := hQ2
  have N2 := Fr.app N0 N2q
  have pre3 : ∀ t, Steps p.tables e below (T2.setTop (mkF m 7 #[.val (.int p1), .unset, .unset, .unset, .unset, .unset, .unset, .unset, .unset] [(.int (own_of p1 (0 : Int32) (1 : Int32)))])) t → Steps p.tables e below (s₁.setTop (entryFrame m #[(.int p1)] maxLocals)) t := fun t k => pre0 t (by
    show Steps p.tables e below (s₁.setTop (mkF m 0 #[.val (.int p1), .unset, .unset, .unset, .unset, .unset, .unset, .unset, .unset] [])) _
    refine st1 _ ?_
    show Steps p.tables e below (T1.setTop (mkF m 3 #[.val (.int p1), .unset, .unset, .unset, .unset, .unset, .unset, .unset, .unset] [(.ref a_LZ77)])) _
    refine XS.iloadN X1.here hx rfl (hb hby at_3) rfl ?_
    show Steps p.tables e below (T1.setTop (mkF m 4 #[.val (.int p1), .unset, .unset, .unset, .unset, .unset, .unset, .unset, .unset] [(.int p1), (.ref a_LZ77)])) _
    refine st2.trans ?_
    exact k)
  obtain ⟨vLZ77, h_vLZ77⟩ : ∃ z : Int32, z = (own_of p1 (0 : Int32) (1 : Int32)) := ⟨_, rfl⟩
  rw [← h_vLZ77] at pre3
  rw [← h_vLZ77] at hLZ77
  obtain ⟨T4, X4, e4, st4⟩ := getS2 X2 hx hZ hown (host := "") (Or.inl (hw _ (List.mem_of_getElem? (i := 12) rfl))) Via.refl e2 S_SM4 (g := (mkF m 8 #[.val (.int p1), .val (.int vLZ77), .unset, .unset, .unset, .unset, .unset, .unset, .unset] [])) rfl (hb hby at_8)
  obtain ⟨cq5, kq5, q5a, q5b, q5c⟩ := isOf hZ e4 E_SM4
  obtain ⟨_, _, ⟨T5, L5, k5, n5⟩, -, X5, ⟨Lc5, hQ5, l5, y5, z5⟩, st5⟩ := X4.virtualBack hx (y := (⟨"com/example/wirecraft/wirecraft/protocols/otc/OtcCodec$Flag", "of", "(I)I"⟩ : MethodName)) (z := (⟨"com/example/wirecraft/wirecraft/protocols/otc/OtcCodec$Flag", "of", "(I)I"⟩ : MethodName)) hown (mvT hZ (hw _ (List.mem_of_getElem? (i := 3) rfl))) (mvT hZ (hw _ (List.mem_of_getElem? (i := 4) rfl))) (notFace_of_selects (args := #[]) (mvT hZ (hw _ (List.mem_of_getElem? (i := 6) rfl)))) (mvT hZ (hw _ (List.mem_of_getElem? (i := 6) rfl))) (mvT hZ (hw _ (List.mem_of_getElem? (i := 5) rfl))) (by decide) (backOf (W := 0) (rm1 l Z a0 hw [] a_SM4 p1 (1 : Int32) (1 : Int32) h0 n0 Z0 F_SM4_shift F_SM4_bits) hZ (hw _ (List.mem_of_getElem? (i := 7) rfl)) (hw _ (List.mem_of_getElem? (i := 1) rfl)) (by decide) (by decide)) q5a q5c (g := (mkF m 12 #[.val (.int p1), .val (.int vLZ77), .unset, .unset, .unset, .unset, .unset, .unset, .unset] [(.int p1), (.ref a_SM4)])) rfl (by rw [hml]; rfl) (Steps.refl _) (argsL := [(.int p1)]) (rest := []) (lenOf own_pd0 rfl) rfl (by show 2 * 0 + _ ≤ _; exact Nat.le_of_eq rfl) (hb hby at_12) (fun _ _ => ⟨rfl, e4, (by decide : 0 + 0 ≤ _), (by decide : 0 + 0 ≤ _)⟩)
  dsimp only [Pt.U, Pt.locs, Pt.cells, Pt.slots] at X5 l5 y5 z5 st5 hQ5
  subst l5 y5 z5
  obtain ⟨rfl, N5q, e5⟩ := hQ5
  have N5 := Fr.app N2 N5q
  have pre6 : ∀ t, Steps p.tables e below (T5.setTop (mkF m 15 #[.val (.int p1), .val (.int vLZ77), .unset, .unset, .unset, .unset, .unset, .unset, .unset] [(.int (own_of p1 (1 : Int32) (1 : Int32)))])) t → Steps p.tables e below (s₁.setTop (entryFrame m #[(.int p1)] maxLocals)) t := fun t k => pre3 t (by
    show Steps p.tables e below (T2.setTop (mkF m 7 #[.val (.int p1), .unset, .unset, .unset, .unset, .unset, .unset, .unset, .unset] [(.int vLZ77)])) _
    refine XS.istoreN X2.here hx rfl (hb hby at_7) rfl (l' := #[.val (.int p1), .val (.int vLZ77), .unset, .unset, .unset, .unset, .unset, .unset, .unset]) rfl ?_
    show Steps p.tables e below (T2.setTop (mkF m 8 #[.val (.int p1), .val (.int vLZ77), .unset, .unset, .unset, .unset, .unset, .unset, .unset] [])) _
    refine st4 _ ?_
    show Steps p.tables e below (T4.setTop (mkF m 11 #[.val (.int p1), .val (.int vLZ77), .unset, .unset, .unset, .unset, .unset, .unset, .unset] [(.ref a_SM4)])) _
    refine XS.iloadN X4.here hx rfl (hb hby at_11) rfl ?_
    show Steps p.tables e below (T4.setTop (mkF m 12 #[.val (.int p1), .val (.int vLZ77), .unset, .unset, .unset, .unset, .unset, .unset, .unset] [(.int p1), (.ref a_SM4)])) _
    refine st5.trans ?_
    exact k)
  obtain ⟨vSM4, h_vSM4⟩ : ∃ z : Int32, z = (own_of p1 (1 : Int32) (1 : Int32)) := ⟨_, rfl⟩
  rw [← h_vSM4] at pre6
  rw [← h_vSM4] at hSM4
  obtain ⟨T7, X7, e7, st7⟩ := getS2 X5 hx hZ hown (host := "") (Or.inl (hw _ (List.mem_of_getElem? (i := 14) rfl))) Via.refl e5 S_AES256 (g := (mkF m 16 #[.val (.int p1), .val (.int vLZ77), .val (.int vSM4), .unset, .unset, .unset, .unset, .unset, .unset] [])) rfl (hb hby at_16)
  obtain ⟨cq8, kq8, q8a, q8b, q8c⟩ := isOf hZ e7 E_AES256
  obtain ⟨_, _, ⟨T8, L8, k8, n8⟩, -, X8, ⟨Lc8, hQ8, l8, y8, z8⟩, st8⟩ := X7.virtualBack hx (y := (⟨"com/example/wirecraft/wirecraft/protocols/otc/OtcCodec$Flag", "of", "(I)I"⟩ : MethodName)) (z := (⟨"com/example/wirecraft/wirecraft/protocols/otc/OtcCodec$Flag", "of", "(I)I"⟩ : MethodName)) hown (mvT hZ (hw _ (List.mem_of_getElem? (i := 3) rfl))) (mvT hZ (hw _ (List.mem_of_getElem? (i := 4) rfl))) (notFace_of_selects (args := #[]) (mvT hZ (hw _ (List.mem_of_getElem? (i := 6) rfl)))) (mvT hZ (hw _ (List.mem_of_getElem? (i := 6) rfl))) (mvT hZ (hw _ (List.mem_of_getElem? (i := 5) rfl))) (by decide) (backOf (W := 0) (rm1 l Z a0 hw [] a_AES256 p1 (2 : Int32) (1 : Int32) h0 n0 Z0 F_AES256_shift F_AES256_bits) hZ (hw _ (List.mem_of_getElem? (i := 7) rfl)) (hw _ (List.mem_of_getElem? (i := 1) rfl)) (by decide) (by decide)) q8a q8c (g := (mkF m 20 #[.val (.int p1), .val (.int vLZ77), .val (.int vSM4), .unset, .unset, .unset, .unset, .unset, .unset] [(.int p1), (.ref a_AES256)])) rfl (by rw [hml]; rfl) (Steps.refl _) (argsL := [(.int p1)]) (rest := []) (lenOf own_pd0 rfl) rfl (by show 2 * 0 + _ ≤ _; exact Nat.le_of_eq rfl) (hb hby at_20) (fun _ _ => ⟨rfl, e7, (by decide : 0 + 0 ≤ _), (by decide : 0 + 0 ≤ _)⟩)
  dsimp only [Pt.U, Pt.locs, Pt.cells, Pt.slots] at X8 l8 y8 z8 st8 hQ8
  subst l8 y8 z8
  obtain ⟨rfl, N8q, e8⟩ := hQ8
  have N8 := Fr.app N5 N8q
  have pre9 : ∀ t, Steps p.tables e below (T8.setTop (mkF m 23 #[.val (.int p1), .val (.int vLZ77), .val (.int vSM4), .unset, .unset, .unset, .unset, .unset, .unset] [(.int (own_of p1 (2 : Int32) (1 : Int32)))])) t → Steps p.tables e below (s₁.setTop (entryFrame m #[(.int p1)] maxLocals)) t := fun t k => pre6 t (by
    show Steps p.tables e below (T5.setTop (mkF m 15 #[.val (.int p1), .val (.int vLZ77), .unset, .unset, .unset, .unset, .unset, .unset, .unset] [(.int vSM4)])) _
    refine XS.istoreN X5.here hx rfl (hb hby at_15) rfl (l' := #[.val (.int p1), .val (.int vLZ77), .val (.int vSM4), .unset, .unset, .unset, .unset, .unset, .unset]) rfl ?_
    show Steps p.tables e below (T5.setTop (mkF m 16 #[.val (.int p1), .val (.int vLZ77), .val (.int vSM4), .unset, .unset, .unset, .unset, .unset, .unset] [])) _
    refine st7 _ ?_
    show Steps p.tables e below (T7.setTop (mkF m 19 #[.val (.int p1), .val (.int vLZ77), .val (.int vSM4), .unset, .unset, .unset, .unset, .unset, .unset] [(.ref a_AES256)])) _
    refine XS.iloadN X7.here hx rfl (hb hby at_19) rfl ?_
    show Steps p.tables e below (T7.setTop (mkF m 20 #[.val (.int p1), .val (.int vLZ77), .val (.int vSM4), .unset, .unset, .unset, .unset, .unset, .unset] [(.int p1), (.ref a_AES256)])) _
    refine st8.trans ?_
    exact k)
  obtain ⟨vAES256, h_vAES256⟩ : ∃ z : Int32, z = (own_of p1 (2 : Int32) (1 : Int32)) := ⟨_, rfl⟩
  rw [← h_vAES256] at pre9
  rw [← h_vAES256] at hAES256
  obtain ⟨T10, X10, e10, st10⟩ := getS2 X8 hx hZ hown (host := "") (Or.inl (hw _ (List.mem_of_getElem? (i := 16) rfl))) Via.refl e8 S_SM3 (g := (mkF m 24 #[.val (.int p1), .val (.int vLZ77), .val (.int vSM4), .val (.int vAES256), .unset, .unset, .unset, .unset, .unset] [])) rfl (hb hby at_24)
  obtain ⟨cq11, kq11, q11a, q11b, q11c⟩ := isOf hZ e10 E_SM3
  obtain ⟨_, _, ⟨T11, L11, k11, n11⟩, -, X11, ⟨Lc11, hQ11, l11, y11, z11⟩, st11⟩ := X10.virtualBack hx (y := (⟨"com/example/wirecraft/wirecraft/protocols/otc/OtcCodec$Flag", "of", "(I)I"⟩ : MethodName)) (z := (⟨"com/example/wirecraft/wirecraft/protocols/otc/OtcCodec$Flag", "of", "(I)I"⟩ : MethodName)) hown (mvT hZ (hw _ (List.mem_of_getElem? (i := 3) rfl))) (mvT hZ (hw _ (List.mem_of_getElem? (i := 4) rfl))) (notFace_of_selects (args := #[]) (mvT hZ (hw _ (List.mem_of_getElem? (i := 6) rfl)))) (mvT hZ (hw _ (List.mem_of_getElem? (i := 6) rfl))) (mvT hZ (hw _ (List.mem_of_getElem? (i := 5) rfl))) (by decide) (backOf (W := 0) (rm1 l Z a0 hw [] a_SM3 p1 (3 : Int32) (1 : Int32) h0 n0 Z0 F_SM3_shift F_SM3_bits) hZ (hw _ (List.mem_of_getElem? (i := 7) rfl)) (hw _ (List.mem_of_getElem? (i := 1) rfl)) (by decide) (by decide)) q11a q11c (g := (mkF m 28 #[.val (.int p1), .val (.int vLZ77), .val (.int vSM4), .val (.int vAES256), .unset, .unset, .unset, .unset, .unset] [(.int p1), (.ref a_SM3)])) rfl (by rw [hml]; rfl) (Steps.refl _) (argsL := [(.int p1)]) (rest := []) (lenOf own_pd0 rfl) rfl (by show 2 * 0 + _ ≤ _; exact Nat.le_of_eq rfl) (hb hby at_28) (fun _ _ => ⟨rfl, e10, (by decide : 0 + 0 ≤ _), (by decide : 0 + 0 ≤ _)⟩)
  dsimp only [Pt.U, Pt.locs, Pt.cells, Pt.slots] at X11 l11 y11 z11 st11 hQ11
  subst l11 y11 z11
  obtain ⟨rfl, N11q, e11⟩ := hQ11
  have N11 := Fr.app N8 N11q
  have pre12 : ∀ t, Steps p.tables e below (T11.setTop (mkF m 31 #[.val (.int p1), .val (.int vLZ77), .val (.int vSM4), .val (.int vAES256), .unset, .unset, .unset, .unset, .unset] [(.int (own_of p1 (3 : Int32) (1 : Int32)))])) t → Steps p.tables e below (s₁.setTop (entryFrame m #[(.int p1)] maxLocals)) t := fun t k => pre9 t (by
    show Steps p.tables e below (T8.setTop (mkF m 23 #[.val (.int p1), .val (.int vLZ77), .val (.int vSM4), .unset, .unset, .unset, .unset, .unset, .unset] [(.int vAES256)])) _
    refine XS.istoreN X8.here hx rfl (hb hby at_23) rfl (l' := #[.val (.int p1), .val (.int vLZ77), .val (.int vSM4), .val (.int vAES256), .unset, .unset, .unset, .unset, .unset]) rfl ?_
    show Steps p.tables e below (T8.setTop (mkF m 24 #[.val (.int p1), .val (.int vLZ77), .val (.int vSM4), .val (.int vAES256), .unset, .unset, .unset, .unset, .unset] [])) _
    refine st10 _ ?_
    show Steps p.tables e below (T10.setTop (mkF m 27 #[.val (.int p1), .val (.int vLZ77), .val (.int vSM4), .val (.int vAES256), .unset, .unset, .unset, .unset, .unset] [(.ref a_SM3)])) _
    refine XS.iloadN X10.here hx rfl (hb hby at_27) rfl ?_
    show Steps p.tables e below (T10.setTop (mkF m 28 #[.val (.int p1), .val (.int vLZ77), .val (.int vSM4), .val (.int vAES256), .unset, .unset, .unset, .unset, .unset] [(.int p1), (.ref a_SM3)])) _
    refine st11.trans ?_
    exact k)
  obtain ⟨vSM3, h_vSM3⟩ : ∃ z : Int32, z = (own_of p1 (3 : Int32) (1 : Int32)) := ⟨_, rfl⟩
  rw [← h_vSM3] at pre12
  rw [← h_vSM3] at hSM3
  obtain ⟨T13, X13, e13, st13⟩ := getS2 X11 hx hZ hown (host := "") (Or.inl (hw _ (List.mem_of_getElem? (i := 18) rfl))) Via.refl e11 S_SHA1 (g := (mkF m 33 #[.val (.int p1), .val (.int vLZ77), .val (.int vSM4), .val (.int vAES256), .val (.int vSM3), .unset, .unset, .unset, .unset] [])) rfl (hb hby at_33)
  obtain ⟨cq14, kq14, q14a, q14b, q14c⟩ := isOf hZ e13 E_SHA1
  obtain ⟨_, _, ⟨T14, L14, k14, n14⟩, -, X14, ⟨Lc14, hQ14, l14, y14, z14⟩, st14⟩ := X13.virtualBack hx (y := (⟨"com/example/wirecraft/wirecraft/protocols/otc/OtcCodec$Flag", "of", "(I)I"⟩ : MethodName)) (z := (⟨"com/example/wirecraft/wirecraft/protocols/otc/OtcCodec$Flag", "of", "(I)I"⟩ : MethodName)) hown (mvT hZ (hw _ (List.mem_of_getElem? (i := 3) rfl))) (mvT hZ (hw _ (List.mem_of_getElem? (i := 4) rfl))) (notFace_of_selects (args := #[]) (mvT hZ (hw _ (List.mem_of_getElem? (i := 6) rfl)))) (mvT hZ (hw _ (List.mem_of_getElem? (i := 6) rfl))) (mvT hZ (hw _ (List.mem_of_getElem? (i := 5) rfl))) (by decide) (backOf (W := 0) (rm1 l Z a0 hw [] a_SHA1 p1 (4 : Int32) (1 : Int32) h0 n0 Z0 F_SHA1_shift F_SHA1_bits) hZ (hw _ (List.mem_of_getElem? (i := 7) rfl)) (hw _ (List.mem_of_getElem? (i := 1) rfl)) (by decide) (by decide)) q14a q14c (g := (mkF m 37 #[.val (.int p1), .val (.int vLZ77), .val (.int vSM4), .val (.int vAES256), .val (.int vSM3), .unset, .unset, .unset, .unset] [(.int p1), (.ref a_SHA1)])) rfl (by rw [hml]; rfl) (Steps.refl _) (argsL := [(.int p1)]) (rest := []) (lenOf own_pd0 rfl) rfl (by show 2 * 0 + _ ≤ _; exact Nat.le_of_eq rfl) (hb hby at_37) (fun _ _ => ⟨rfl, e13, (by decide : 0 + 0 ≤ _), (by decide : 0 + 0 ≤ _)⟩)
  dsimp only [Pt.U, Pt.locs, Pt.cells, Pt.slots] at X14 l14 y14 z14 st14 hQ14
  subst l14 y14 z14
  obtain ⟨rfl, N14q, e14⟩ := hQ14
  have N14 := Fr.app N11 N14q
  have pre15 : ∀ t, Steps p.tables e below (T14.setTop (mkF m 40 #[.val (.int p1), .val (.int vLZ77), .val (.int vSM4), .val (.int vAES256), .val (.int vSM3), .unset, .unset, .unset, .unset] [(.int (own_of p1 (4 : Int32) (1 : Int32)))])) t → Steps p.tables e below (s₁.setTop (entryFrame m #[(.int p1)] maxLocals)) t := fun t k => pre12 t (by
    show Steps p.tables e below (T11.setTop (mkF m 31 #[.val (.int p1), .val (.int vLZ77), .val (.int vSM4), .val (.int vAES256), .unset, .unset, .unset, .unset, .unset] [(.int vSM3)])) _
    refine XS.istore X11.here hx rfl (hb hby at_31) rfl (l' := #[.val (.int p1), .val (.int vLZ77), .val (.int vSM4), .val (.int vAES256), .val (.int vSM3), .unset, .unset, .unset, .unset]) rfl ?_
    show Steps p.tables e below (T11.setTop (mkF m 33 #[.val (.int p1), .val (.int vLZ77), .val (.int vSM4), .val (.int vAES256), .val (.int vSM3), .unset, .unset, .unset, .unset] [])) _
    refine st13 _ ?_
    show Steps p.tables e below (T13.setTop (mkF m 36 #[.val (.int p1), .val (.int vLZ77), .val (.int vSM4), .val (.int vAES256), .val (.int vSM3), .unset, .unset, .unset, .unset] [(.ref a_SHA1)])) _
    refine XS.iloadN X13.here hx rfl (hb hby at_36) rfl ?_
    show Steps p.tables e below (T13.setTop (mkF m 37 #[.val (.int p1), .val (.int vLZ77), .val (.int vSM4), .val (.int vAES256), .val (.int vSM3), .unset, .unset, .unset, .unset] [(.int p1), (.ref a_SHA1)])) _
    refine st14.trans ?_
    exact k)
  obtain ⟨vSHA1, h_vSHA1⟩ : ∃ z : Int32, z = (own_of p1 (4 : Int32) (1 : Int32)) := ⟨_, rfl⟩
  rw [← h_vSHA1] at pre15
  rw [← h_vSHA1] at hSHA1
  obtain ⟨T16, X16, e16, st16⟩ := getS2 X14 hx hZ hown (host := "") (Or.inl (hw _ (List.mem_of_getElem? (i := 20) rfl))) Via.refl e14 S_RESERVED (g := (mkF m 42 #[.val (.int p1), .val (.int vLZ77), .val (.int vSM4), .val (.int vAES256), .val (.int vSM3), .val (.int vSHA1), .unset, .unset, .unset] [])) rfl (hb hby at_42)
  obtain ⟨cq17, kq17, q17a, q17b, q17c⟩ := isOf hZ e16 E_RESERVED
  obtain ⟨_, _, ⟨T17, L17, k17, n17⟩, -, X17, ⟨Lc17, hQ17, l17, y17, z17⟩, st17⟩ := X16.virtualBack hx (y := (⟨"com/example/wirecraft/wirecraft/protocols/otc/OtcCodec$Flag", "of", "(I)I"⟩ : MethodName)) (z := (⟨"com/example/wirecraft/wirecraft/protocols/otc/OtcCodec$Flag", "of", "(I)I"⟩ : MethodName)) hown (mvT hZ (hw _ (List.mem_of_getElem? (i := 3) rfl))) (mvT hZ (hw _ (List.mem_of_getElem? (i := 4) rfl))) (notFace_of_selects (args := #[]) (mvT hZ (hw _ (List.mem_of_getElem? (i := 6) rfl)))) (mvT hZ (hw _ (List.mem_of_getElem? (i := 6) rfl))) (mvT hZ (hw _ (List.mem_of_getElem? (i := 5) rfl))) (by decide) (backOf (W := 0) (rm1 l Z a0 hw [] a_RESERVED p1 (5 : Int32) (3 : Int32) h0 n0 Z0 F_RESERVED_shift F_RESERVED_bits) hZ (hw _ (List.mem_of_getElem? (i := 7) rfl)) (hw _ (List.mem_of_getElem? (i := 1) rfl)) (by decide) (by decide)) q17a q17c (g := (mkF m 46 #[.val (.int p1), .val (.int vLZ77), .val (.int vSM4), .val (.int vAES256), .val (.int vSM3), .val (.int vSHA1), .unset, .unset, .unset] [(.int p1), (.ref a_RESERVED)])) rfl (by rw [hml]; rfl) (Steps.refl _) (argsL := [(.int p1)]) (rest := []) (lenOf own_pd0 rfl) rfl (by show 2 * 0 + _ ≤ _; exact Nat.le_of_eq rfl) (hb hby at_46) (fun _ _ => ⟨rfl, e16, (by decide : 0 + 0 ≤ _), (by decide : 0 + 0 ≤ _)⟩)
  dsimp only [Pt.U, Pt.locs, Pt.cells, Pt.slots] at X17 l17 y17 z17 st17 hQ17
  subst l17 y17 z17
  obtain ⟨rfl, N17q, e17⟩ := hQ17
  have N17 := Fr.app N14 N17q
  have pre18 : ∀ t, Steps p.tables e below (T17.setTop (mkF m 49 #[.val (.int p1), .val (.int vLZ77), .val (.int vSM4), .val (.int vAES256), .val (.int vSM3), .val (.int vSHA1), .unset, .unset, .unset] [(.int (own_of p1 (5 : Int32) (3 : Int32)))])) t → Steps p.tables e below (s₁.setTop (entryFrame m #[(.int p1)] maxLocals)) t := fun t k => pre15 t (by
    show Steps p.tables e below (T14.setTop (mkF m 40 #[.val (.int p1), .val (.int vLZ77), .val (.int vSM4), .val (.int vAES256), .val (.int vSM3), .unset, .unset, .unset, .unset] [(.int vSHA1)])) _
    refine XS.istore X14.here hx rfl (hb hby at_40) rfl (l' := #[.val (.int p1), .val (.int vLZ77), .val (.int vSM4), .val (.int vAES256), .val (.int vSM3), .val (.int vSHA1), .unset, .unset, .unset]) rfl ?_
    show Steps p.tables e below (T14.setTop (mkF m 42 #[.val (.int p1), .val (.int vLZ77), .val (.int vSM4), .val (.int vAES256), .val (.int vSM3), .val (.int vSHA1), .unset, .unset, .unset] [])) _
    refine st16 _ ?_
    show Steps p.tables e below (T16.setTop (mkF m 45 #[.val (.int p1), .val (.int vLZ77), .val (.int vSM4), .val (.int vAES256), .val (.int vSM3), .val (.int vSHA1), .unset, .unset, .unset] [(.ref a_RESERVED)])) _
    refine XS.iloadN X16.here hx rfl (hb hby at_45) rfl ?_
    show Steps p.tables e below (T16.setTop (mkF m 46 #[.val (.int p1), .val (.int vLZ77), .val (.int vSM4), .val (.int vAES256), .val (.int vSM3), .val (.int vSHA1), .unset, .unset, .unset] [(.int p1), (.ref a_RESERVED)])) _
    refine st17.trans ?_
    exact k)
  obtain ⟨vRESERVED, h_vRESERVED⟩ : ∃ z : Int32, z = (own_of p1 (5 : Int32) (3 : Int32)) := ⟨_, rfl⟩
  rw [← h_vRESERVED] at pre18
  rw [← h_vRESERVED] at hRESERVED
  obtain ⟨_, _, ⟨T19, L19, k19, n19⟩, -, X19, ⟨Lc19, hQ19, l19, y19, z19⟩, st19⟩ := Jvm.LawKit.callS X17 hx (y := (⟨"com/example/wirecraft/wirecraft/protocols/otc/FlagOfPinLaw", "bit", "(I)Z"⟩ : MethodName)) hown (mvT hZ (hw _ (List.mem_of_getElem? (i := 22) rfl))) (mvT hZ (hw _ (List.mem_of_getElem? (i := 23) rfl))) (mvT hZ (hw _ (List.mem_of_getElem? (i := 24) rfl))) (mvT hZ (hw _ (List.mem_of_getElem? (i := 25) rfl))) (by decide) (backOf (W := 0) (rm2 l Z a0 hw [] vLZ77  h0 n0 Z0 (own_b0 (by omega))) hZ (hw _ (List.mem_of_getElem? (i := 25) rfl)) (hw _ (List.mem_of_getElem? (i := 24) rfl)) (by decide) (by decide)) (g := (mkF m 52 #[.val (.int p1), .val (.int vLZ77), .val (.int vSM4), .val (.int vAES256), .val (.int vSM3), .val (.int vSHA1), .val (.int vRESERVED), .unset, .unset] [(.int vLZ77)])) rfl (by rw [hml]; rfl) (argsL := [(.int vLZ77)]) (rest := []) (lenOf own_pd1 rfl) rfl (by show 2 * 0 + _ ≤ _; exact Nat.le_of_eq rfl) (hb hby at_52) (fun _ _ => ⟨rfl, e17, (by decide : 0 + 0 ≤ _), (by decide : 0 + 0 ≤ _)⟩)
  dsimp only [Pt.U, Pt.locs, Pt.cells, Pt.slots] at X19 l19 y19 z19 st19 hQ19
  subst l19 y19 z19
  obtain ⟨rfl, N19q, e19⟩ := hQ19
  have N19 := Fr.app N17 N19q
  obtain ⟨_, _, ⟨T20, L20, k20, n20⟩, -, X20, ⟨Lc20, hQ20, l20, y20, z20⟩, st20⟩ := Jvm.LawKit.callS X19 hx (y := (⟨"com/example/wirecraft/wirecraft/protocols/otc/FlagOfPinLaw", "bit", "(I)Z"⟩ : MethodName)) hown (mvT hZ (hw _ (List.mem_of_getElem? (i := 22) rfl))) (mvT hZ (hw _ (List.mem_of_getElem? (i := 23) rfl))) (mvT hZ (hw _ (List.mem_of_getElem? (i := 24) rfl))) (mvT hZ (hw _ (List.mem_of_getElem? (i := 25) rfl))) (by decide) (backOf (W := 0) (rm2 l Z a0 hw [] vSM4  h0 n0 Z0 (own_b0 (by omega))) hZ (hw _ (List.mem_of_getElem? (i := 25) rfl)) (hw _ (List.mem_of_getElem? (i := 24) rfl)) (by decide) (by decide)) (g := (mkF m 59 #[.val (.int p1), .val (.int vLZ77), .val (.int vSM4), .val (.int vAES256), .val (.int vSM3), .val (.int vSHA1), .val (.int vRESERVED), .unset, .unset] [(.int vSM4)])) rfl (by rw [hml]; rfl) (argsL := [(.int vSM4)]) (rest := []) (lenOf own_pd1 rfl) rfl (by show 2 * 0 + _ ≤ _; exact Nat.le_of_eq rfl) (hb hby at_59) (fun _ _ => ⟨rfl, e19, (by decide : 0 + 0 ≤ _), (by decide : 0 + 0 ≤ _)⟩)
  dsimp only [Pt.U, Pt.locs, Pt.cells, Pt.slots] at X20 l20 y20 z20 st20 hQ20
  subst l20 y20 z20
  obtain ⟨rfl, N20q, e20⟩ := hQ20
  have N20 := Fr.app N19 N20q
  obtain ⟨_, _, ⟨T21, L21, k21, n21⟩, -, X21, ⟨Lc21, hQ21, l21, y21, z21⟩, st21⟩ := Jvm.LawKit.callS X20 hx (y := (⟨"com/example/wirecraft/wirecraft/protocols/otc/FlagOfPinLaw", "bit", "(I)Z"⟩ : MethodName)) hown (mvT hZ (hw _ (List.mem_of_getElem? (i := 22) rfl))) (mvT hZ (hw _ (List.mem_of_getElem? (i := 23) rfl))) (mvT hZ (hw _ (List.mem_of_getElem? (i := 24) rfl))) (mvT hZ (hw _ (List.mem_of_getElem? (i := 25) rfl))) (by decide) (backOf (W := 0) (rm2 l Z a0 hw [] vAES256  h0 n0 Z0 (own_b0 (by omega))) hZ (hw _ (List.mem_of_getElem? (i := 25) rfl)) (hw _ (List.mem_of_getElem? (i := 24) rfl)) (by decide) (by decide)) (g := (mkF m 66 #[.val (.int p1), .val (.int vLZ77), .val (.int vSM4), .val (.int vAES256), .val (.int vSM3), .val (.int vSHA1), .val (.int vRESERVED), .unset, .unset] [(.int vAES256)])) rfl (by rw [hml]; rfl) (argsL := [(.int vAES256)]) (rest := []) (lenOf own_pd1 rfl) rfl (by show 2 * 0 + _ ≤ _; exact Nat.le_of_eq rfl) (hb hby at_66) (fun _ _ => ⟨rfl, e20, (by decide : 0 + 0 ≤ _), (by decide : 0 + 0 ≤ _)⟩)
  dsimp only [Pt.U, Pt.locs, Pt.cells, Pt.slots] at X21 l21 y21 z21 st21 hQ21
  subst l21 y21 z21
  obtain ⟨rfl, N21q, e21⟩ := hQ21
  have N21 := Fr.app N20 N21q
  obtain ⟨_, _, ⟨T22, L22, k22, n22⟩, -, X22, ⟨Lc22, hQ22, l22, y22, z22⟩, st22⟩ := Jvm.LawKit.callS X21 hx (y := (⟨"com/example/wirecraft/wirecraft/protocols/otc/FlagOfPinLaw", "bit", "(I)Z"⟩ : MethodName)) hown (mvT hZ (hw _ (List.mem_of_getElem? (i := 22) rfl))) (mvT hZ (hw _ (List.mem_of_getElem? (i := 23) rfl))) (mvT hZ (hw _ (List.mem_of_getElem? (i := 24) rfl))) (mvT hZ (hw _ (List.mem_of_getElem? (i := 25) rfl))) (by decide) (backOf (W := 0) (rm2 l Z a0 hw [] vSM3  h0 n0 Z0 (own_b0 (by omega))) hZ (hw _ (List.mem_of_getElem? (i := 25) rfl)) (hw _ (List.mem_of_getElem? (i := 24) rfl)) (by decide) (by decide)) (g := (mkF m 74 #[.val (.int p1), .val (.int vLZ77), .val (.int vSM4), .val (.int vAES256), .val (.int vSM3), .val (.int vSHA1), .val (.int vRESERVED), .unset, .unset] [(.int vSM3)])) rfl (by rw [hml]; rfl) (argsL := [(.int vSM3)]) (rest := []) (lenOf own_pd1 rfl) rfl (by show 2 * 0 + _ ≤ _; exact Nat.le_of_eq rfl) (hb hby at_74) (fun _ _ => ⟨rfl, e21, (by decide : 0 + 0 ≤ _), (by decide : 0 + 0 ≤ _)⟩)
  dsimp only [Pt.U, Pt.locs, Pt.cells, Pt.slots] at X22 l22 y22 z22 st22 hQ22
  subst l22 y22 z22
  obtain ⟨rfl, N22q, e22⟩ := hQ22
  have N22 := Fr.app N21 N22q
  obtain ⟨_, _, ⟨T23, L23, k23, n23⟩, -, X23, ⟨Lc23, hQ23, l23, y23, z23⟩, st23⟩ := Jvm.LawKit.callS X22 hx (y := (⟨"com/example/wirecraft/wirecraft/protocols/otc/FlagOfPinLaw", "bit", "(I)Z"⟩ : MethodName)) hown (mvT hZ (hw _ (List.mem_of_getElem? (i := 22) rfl))) (mvT hZ (hw _ (List.mem_of_getElem? (i := 23) rfl))) (mvT hZ (hw _ (List.mem_of_getElem? (i := 24) rfl))) (mvT hZ (hw _ (List.mem_of_getElem? (i := 25) rfl))) (by decide) (backOf (W := 0) (rm2 l Z a0 hw [] vSHA1  h0 n0 Z0 (own_b0 (by omega))) hZ (hw _ (List.mem_of_getElem? (i := 25) rfl)) (hw _ (List.mem_of_getElem? (i := 24) rfl)) (by decide) (by decide)) (g := (mkF m 82 #[.val (.int p1), .val (.int vLZ77), .val (.int vSM4), .val (.int vAES256), .val (.int vSM3), .val (.int vSHA1), .val (.int vRESERVED), .unset, .unset] [(.int vSHA1)])) rfl (by rw [hml]; rfl) (argsL := [(.int vSHA1)]) (rest := []) (lenOf own_pd1 rfl) rfl (by show 2 * 0 + _ ≤ _; exact Nat.le_of_eq rfl) (hb hby at_82) (fun _ _ => ⟨rfl, e22, (by decide : 0 + 0 ≤ _), (by decide : 0 + 0 ≤ _)⟩)
  dsimp only [Pt.U, Pt.locs, Pt.cells, Pt.slots] at X23 l23 y23 z23 st23 hQ23
  subst l23 y23 z23
  obtain ⟨rfl, N23q, e23⟩ := hQ23
  have N23 := Fr.app N22 N23q
  have pre24 : ∀ t, Steps p.tables e below (T23.setTop (mkF m 158 #[.val (.int p1), .val (.int vLZ77), .val (.int vSM4), .val (.int vAES256), .val (.int vSM3), .val (.int vSHA1), .val (.int vRESERVED), .val (.int (1 : Int32)), .val (.int (((((vLZ77 + ((2 : Int32) * vSM4)) + ((4 : Int32) * vAES256)) + ((8 : Int32) * vSM3)) + ((16 : Int32) * vSHA1)) + ((32 : Int32) * vRESERVED)))] [(.int (1 : Int32))])) t → Steps p.tables e below (s₁.setTop (entryFrame m #[(.int p1)] maxLocals)) t := fun t k => pre18 t (by
    show Steps p.tables e below (T17.setTop (mkF m 49 #[.val (.int p1), .val (.int vLZ77), .val (.int vSM4), .val (.int vAES256), .val (.int vSM3), .val (.int vSHA1), .unset, .unset, .unset] [(.int vRESERVED)])) _
    refine XS.istore X17.here hx rfl (hb hby at_49) rfl (l' := #[.val (.int p1), .val (.int vLZ77), .val (.int vSM4), .val (.int vAES256), .val (.int vSM3), .val (.int vSHA1), .val (.int vRESERVED), .unset, .unset]) rfl ?_
    show Steps p.tables e below (T17.setTop (mkF m 51 #[.val (.int p1), .val (.int vLZ77), .val (.int vSM4), .val (.int vAES256), .val (.int vSM3), .val (.int vSHA1), .val (.int vRESERVED), .unset, .unset] [])) _
    refine XS.iloadN X17.here hx rfl (hb hby at_51) rfl ?_
    show Steps p.tables e below (T17.setTop (mkF m 52 #[.val (.int p1), .val (.int vLZ77), .val (.int vSM4), .val (.int vAES256), .val (.int vSM3), .val (.int vSHA1), .val (.int vRESERVED), .unset, .unset] [(.int vLZ77)])) _
    refine st19 _ ?_
    show Steps p.tables e below (T19.setTop (mkF m 55 #[.val (.int p1), .val (.int vLZ77), .val (.int vSM4), .val (.int vAES256), .val (.int vSM3), .val (.int vSHA1), .val (.int vRESERVED), .unset, .unset] [(.int (1 : Int32))])) _
    refine XS.ifNo X19.here hx rfl (hb hby at_55) rfl ((if0 _ _).trans (feq ((by decide) : ¬ ((1 : Int32) = (0 : Int32)))).1) ?_
    show Steps p.tables e below (T19.setTop (mkF m 58 #[.val (.int p1), .val (.int vLZ77), .val (.int vSM4), .val (.int vAES256), .val (.int vSM3), .val (.int vSHA1), .val (.int vRESERVED), .unset, .unset] [])) _
    refine XS.iloadN X19.here hx rfl (hb hby at_58) rfl ?_
    show Steps p.tables e below (T19.setTop (mkF m 59 #[.val (.int p1), .val (.int vLZ77), .val (.int vSM4), .val (.int vAES256), .val (.int vSM3), .val (.int vSHA1), .val (.int vRESERVED), .unset, .unset] [(.int vSM4)])) _
    refine st20 _ ?_
    show Steps p.tables e below (T20.setTop (mkF m 62 #[.val (.int p1), .val (.int vLZ77), .val (.int vSM4), .val (.int vAES256), .val (.int vSM3), .val (.int vSHA1), .val (.int vRESERVED), .unset, .unset] [(.int (1 : Int32))])) _
    refine XS.ifNo X20.here hx rfl (hb hby at_62) rfl ((if0 _ _).trans (feq ((by decide) : ¬ ((1 : Int32) = (0 : Int32)))).1) ?_
    show Steps p.tables e below (T20.setTop (mkF m 65 #[.val (.int p1), .val (.int vLZ77), .val (.int vSM4), .val (.int vAES256), .val (.int vSM3), .val (.int vSHA1), .val (.int vRESERVED), .unset, .unset] [])) _
    refine XS.iloadN X20.here hx rfl (hb hby at_65) rfl ?_
    show Steps p.tables e below (T20.setTop (mkF m 66 #[.val (.int p1), .val (.int vLZ77), .val (.int vSM4), .val (.int vAES256), .val (.int vSM3), .val (.int vSHA1), .val (.int vRESERVED), .unset, .unset] [(.int vAES256)])) _
    refine st21 _ ?_
    show Steps p.tables e below (T21.setTop (mkF m 69 #[.val (.int p1), .val (.int vLZ77), .val (.int vSM4), .val (.int vAES256), .val (.int vSM3), .val (.int vSHA1), .val (.int vRESERVED), .unset, .unset] [(.int (1 : Int32))])) _
    refine XS.ifNo X21.here hx rfl (hb hby at_69) rfl ((if0 _ _).trans (feq ((by decide) : ¬ ((1 : Int32) = (0 : Int32)))).1) ?_
    show Steps p.tables e below (T21.setTop (mkF m 72 #[.val (.int p1), .val (.int vLZ77), .val (.int vSM4), .val (.int vAES256), .val (.int vSM3), .val (.int vSHA1), .val (.int vRESERVED), .unset, .unset] [])) _
    refine XS.iload X21.here hx rfl (hb hby at_72) rfl ?_
    show Steps p.tables e below (T21.setTop (mkF m 74 #[.val (.int p1), .val (.int vLZ77), .val (.int vSM4), .val (.int vAES256), .val (.int vSM3), .val (.int vSHA1), .val (.int vRESERVED), .unset, .unset] [(.int vSM3)])) _
    refine st22 _ ?_
    show Steps p.tables e below (T22.setTop (mkF m 77 #[.val (.int p1), .val (.int vLZ77), .val (.int vSM4), .val (.int vAES256), .val (.int vSM3), .val (.int vSHA1), .val (.int vRESERVED), .unset, .unset] [(.int (1 : Int32))])) _
    refine XS.ifNo X22.here hx rfl (hb hby at_77) rfl ((if0 _ _).trans (feq ((by decide) : ¬ ((1 : Int32) = (0 : Int32)))).1) ?_
    show Steps p.tables e below (T22.setTop (mkF m 80 #[.val (.int p1), .val (.int vLZ77), .val (.int vSM4), .val (.int vAES256), .val (.int vSM3), .val (.int vSHA1), .val (.int vRESERVED), .unset, .unset] [])) _
    refine XS.iload X22.here hx rfl (hb hby at_80) rfl ?_
    show Steps p.tables e below (T22.setTop (mkF m 82 #[.val (.int p1), .val (.int vLZ77), .val (.int vSM4), .val (.int vAES256), .val (.int vSM3), .val (.int vSHA1), .val (.int vRESERVED), .unset, .unset] [(.int vSHA1)])) _
    refine st23 _ ?_
    show Steps p.tables e below (T23.setTop (mkF m 85 #[.val (.int p1), .val (.int vLZ77), .val (.int vSM4), .val (.int vAES256), .val (.int vSM3), .val (.int vSHA1), .val (.int vRESERVED), .unset, .unset] [(.int (1 : Int32))])) _
    refine XS.ifNo X23.here hx rfl (hb hby at_85) rfl ((if0 _ _).trans (feq ((by decide) : ¬ ((1 : Int32) = (0 : Int32)))).1) ?_
    show Steps p.tables e below (T23.setTop (mkF m 88 #[.val (.int p1), .val (.int vLZ77), .val (.int vSM4), .val (.int vAES256), .val (.int vSM3), .val (.int vSHA1), .val (.int vRESERVED), .unset, .unset] [])) _
    refine XS.iload X23.here hx rfl (hb hby at_88) rfl ?_
    show Steps p.tables e below (T23.setTop (mkF m 90 #[.val (.int p1), .val (.int vLZ77), .val (.int vSM4), .val (.int vAES256), .val (.int vSM3), .val (.int vSHA1), .val (.int vRESERVED), .unset, .unset] [(.int vRESERVED)])) _
    refine XS.ifNo X23.here hx rfl (hb hby at_90) rfl ((if0 _ _).trans (flt ((own_r7 hRESERVED).1 : ¬ (vRESERVED < (0 : Int32)))).1) ?_
    show Steps p.tables e below (T23.setTop (mkF m 93 #[.val (.int p1), .val (.int vLZ77), .val (.int vSM4), .val (.int vAES256), .val (.int vSM3), .val (.int vSHA1), .val (.int vRESERVED), .unset, .unset] [])) _
    refine XS.iload X23.here hx rfl (hb hby at_93) rfl ?_
    show Steps p.tables e below (T23.setTop (mkF m 95 #[.val (.int p1), .val (.int vLZ77), .val (.int vSM4), .val (.int vAES256), .val (.int vSM3), .val (.int vSHA1), .val (.int vRESERVED), .unset, .unset] [(.int vRESERVED)])) _
    refine XS.bipush X23.here hx rfl (hb hby at_95) ?_
    show Steps p.tables e below (T23.setTop (mkF m 97 #[.val (.int p1), .val (.int vLZ77), .val (.int vSM4), .val (.int vAES256), .val (.int vSM3), .val (.int vSHA1), .val (.int vRESERVED), .unset, .unset] [(.int (7 : Int32)), (.int vRESERVED)])) _
    refine XS.icmpNo X23.here hx rfl (hb hby at_97) rfl (flt ((own_r7 hRESERVED).2 : ¬ ((7 : Int32) < vRESERVED))).2.2.1 ?_
    show Steps p.tables e below (T23.setTop (mkF m 100 #[.val (.int p1), .val (.int vLZ77), .val (.int vSM4), .val (.int vAES256), .val (.int vSM3), .val (.int vSHA1), .val (.int vRESERVED), .unset, .unset] [])) _
    refine XS.iconst X23.here hx rfl (hb hby at_100) ?_
    show Steps p.tables e below (T23.setTop (mkF m 101 #[.val (.int p1), .val (.int vLZ77), .val (.int vSM4), .val (.int vAES256), .val (.int vSM3), .val (.int vSHA1), .val (.int vRESERVED), .unset, .unset] [(.int (1 : Int32))])) _
    refine XS.goto X23.here hx rfl (pc0 := 101) (pc' := 105) rfl (hb hby at_101) (by decide) (by decide) ?_
    show Steps p.tables e below (T23.setTop (mkF m 105 #[.val (.int p1), .val (.int vLZ77), .val (.int vSM4), .val (.int vAES256), .val (.int vSM3), .val (.int vSHA1), .val (.int vRESERVED), .unset, .unset] [(.int (1 : Int32))])) _
    refine XS.istore X23.here hx rfl (hb hby at_105) rfl (l' := #[.val (.int p1), .val (.int vLZ77), .val (.int vSM4), .val (.int vAES256), .val (.int vSM3), .val (.int vSHA1), .val (.int vRESERVED), .val (.int (1 : Int32)), .unset]) rfl ?_
    show Steps p.tables e below (T23.setTop (mkF m 107 #[.val (.int p1), .val (.int vLZ77), .val (.int vSM4), .val (.int vAES256), .val (.int vSM3), .val (.int vSHA1), .val (.int vRESERVED), .val (.int (1 : Int32)), .unset] [])) _
    refine XS.iload X23.here hx rfl (hb hby at_107) rfl ?_
    show Steps p.tables e below (T23.setTop (mkF m 109 #[.val (.int p1), .val (.int vLZ77), .val (.int vSM4), .val (.int vAES256), .val (.int vSM3), .val (.int vSHA1), .val (.int vRESERVED), .val (.int (1 : Int32)), .unset] [(.int (1 : Int32))])) _
    refine XS.ifYes X23.here hx rfl (pc0 := 109) (pc' := 114) rfl (hb hby at_109) rfl ((if0 _ _).trans (feq ((by decide) : ¬ ((1 : Int32) = (0 : Int32)))).2) (by decide) (by decide) ?_
    show Steps p.tables e below (T23.setTop (mkF m 114 #[.val (.int p1), .val (.int vLZ77), .val (.int vSM4), .val (.int vAES256), .val (.int vSM3), .val (.int vSHA1), .val (.int vRESERVED), .val (.int (1 : Int32)), .unset] [])) _
    refine XS.iloadN X23.here hx rfl (hb hby at_114) rfl ?_
    show Steps p.tables e below (T23.setTop (mkF m 115 #[.val (.int p1), .val (.int vLZ77), .val (.int vSM4), .val (.int vAES256), .val (.int vSM3), .val (.int vSHA1), .val (.int vRESERVED), .val (.int (1 : Int32)), .unset] [(.int vLZ77)])) _
    refine XS.iconst X23.here hx rfl (hb hby at_115) ?_
    show Steps p.tables e below (T23.setTop (mkF m 116 #[.val (.int p1), .val (.int vLZ77), .val (.int vSM4), .val (.int vAES256), .val (.int vSM3), .val (.int vSHA1), .val (.int vRESERVED), .val (.int (1 : Int32)), .unset] [(.int (2 : Int32)), (.int vLZ77)])) _
    refine XS.iloadN X23.here hx rfl (hb hby at_116) rfl ?_
    show Steps p.tables e below (T23.setTop (mkF m 117 #[.val (.int p1), .val (.int vLZ77), .val (.int vSM4), .val (.int vAES256), .val (.int vSM3), .val (.int vSHA1), .val (.int vRESERVED), .val (.int (1 : Int32)), .unset] [(.int vSM4), (.int (2 : Int32)), (.int vLZ77)])) _
    refine XS.imul X23.here hx rfl (hb hby at_117) rfl ?_
    show Steps p.tables e below (T23.setTop (mkF m 118 #[.val (.int p1), .val (.int vLZ77), .val (.int vSM4), .val (.int vAES256), .val (.int vSM3), .val (.int vSHA1), .val (.int vRESERVED), .val (.int (1 : Int32)), .unset] [(.int ((2 : Int32) * vSM4)), (.int vLZ77)])) _
    refine XS.iadd X23.here hx rfl (hb hby at_118) rfl ?_
    show Steps p.tables e below (T23.setTop (mkF m 119 #[.val (.int p1), .val (.int vLZ77), .val (.int vSM4), .val (.int vAES256), .val (.int vSM3), .val (.int vSHA1), .val (.int vRESERVED), .val (.int (1 : Int32)), .unset] [(.int (vLZ77 + ((2 : Int32) * vSM4)))])) _
    refine XS.iconst X23.here hx rfl (hb hby at_119) ?_
    show Steps p.tables e below (T23.setTop (mkF m 120 #[.val (.int p1), .val (.int vLZ77), .val (.int vSM4), .val (.int vAES256), .val (.int vSM3), .val (.int vSHA1), .val (.int vRESERVED), .val (.int (1 : Int32)), .unset] [(.int (4 : Int32)), (.int (vLZ77 + ((2 : Int32) * vSM4)))])) _
    refine XS.iloadN X23.here hx rfl (hb hby at_120) rfl ?_
    show Steps p.tables e below (T23.setTop (mkF m 121 #[.val (.int p1), .val (.int vLZ77), .val (.int vSM4), .val (.int vAES256), .val (.int vSM3), .val (.int vSHA1), .val (.int vRESERVED), .val (.int (1 : Int32)), .unset] [(.int vAES256), (.int (4 : Int32)), (.int (vLZ77 + ((2 : Int32) * vSM4)))])) _
    refine XS.imul X23.here hx rfl (hb hby at_121) rfl ?_
    show Steps p.tables e below (T23.setTop (mkF m 122 #[.val (.int p1), .val (.int vLZ77), .val (.int vSM4), .val (.int vAES256), .val (.int vSM3), .val (.int vSHA1), .val (.int vRESERVED), .val (.int (1 : Int32)), .unset] [(.int ((4 : Int32) * vAES256)), (.int (vLZ77 + ((2 : Int32) * vSM4)))])) _
    refine XS.iadd X23.here hx rfl (hb hby at_122) rfl ?_
    show Steps p.tables e below (T23.setTop (mkF m 123 #[.val (.int p1), .val (.int vLZ77), .val (.int vSM4), .val (.int vAES256), .val (.int vSM3), .val (.int vSHA1), .val (.int vRESERVED), .val (.int (1 : Int32)), .unset] [(.int ((vLZ77 + ((2 : Int32) * vSM4)) + ((4 : Int32) * vAES256)))])) _
    refine XS.bipush X23.here hx rfl (hb hby at_123) ?_
    show Steps p.tables e below (T23.setTop (mkF m 125 #[.val (.int p1), .val (.int vLZ77), .val (.int vSM4), .val (.int vAES256), .val (.int vSM3), .val (.int vSHA1), .val (.int vRESERVED), .val (.int (1 : Int32)), .unset] [(.int (8 : Int32)), (.int ((vLZ77 + ((2 : Int32) * vSM4)) + ((4 : Int32) * vAES256)))])) _
    refine XS.iload X23.here hx rfl (hb hby at_125) rfl ?_
    show Steps p.tables e below (T23.setTop (mkF m 127 #[.val (.int p1), .val (.int vLZ77), .val (.int vSM4), .val (.int vAES256), .val (.int vSM3), .val (.int vSHA1), .val (.int vRESERVED), .val (.int (1 : Int32)), .unset] [(.int vSM3), (.int (8 : Int32)), (.int ((vLZ77 + ((2 : Int32) * vSM4)) + ((4 : Int32) * vAES256)))])) _
    refine XS.imul X23.here hx rfl (hb hby at_127) rfl ?_
    show Steps p.tables e below (T23.setTop (mkF m 128 #[.val (.int p1), .val (.int vLZ77), .val (.int vSM4), .val (.int vAES256), .val (.int vSM3), .val (.int vSHA1), .val (.int vRESERVED), .val (.int (1 : Int32)), .unset] [(.int ((8 : Int32) * vSM3)), (.int ((vLZ77 + ((2 : Int32) * vSM4)) + ((4 : Int32) * vAES256)))])) _
    refine XS.iadd X23.here hx rfl (hb hby at_128) rfl ?_
    show Steps p.tables e below (T23.setTop (mkF m 129 #[.val (.int p1), .val (.int vLZ77), .val (.int vSM4), .val (.int vAES256), .val (.int vSM3), .val (.int vSHA1), .val (.int vRESERVED), .val (.int (1 : Int32)), .unset] [(.int (((vLZ77 + ((2 : Int32) * vSM4)) + ((4 : Int32) * vAES256)) + ((8 : Int32) * vSM3)))])) _
    refine XS.bipush X23.here hx rfl (hb hby at_129) ?_
    show Steps p.tables e below (T23.setTop (mkF m 131 #[.val (.int p1), .val (.int vLZ77), .val (.int vSM4), .val (.int vAES256), .val (.int vSM3), .val (.int vSHA1), .val (.int vRESERVED), .val (.int (1 : Int32)), .unset] [(.int (16 : Int32)), (.int (((vLZ77 + ((2 : Int32) * vSM4)) + ((4 : Int32) * vAES256)) + ((8 : Int32) * vSM3)))])) _
    refine XS.iload X23.here hx rfl (hb hby at_131) rfl ?_
    show Steps p.tables e below (T23.setTop (mkF m 133 #[.val (.int p1), .val (.int vLZ77), .val (.int vSM4), .val (.int vAES256), .val (.int vSM3), .val (.int vSHA1), .val (.int vRESERVED), .val (.int (1 : Int32)), .unset] [(.int vSHA1), (.int (16 : Int32)), (.int (((vLZ77 + ((2 : Int32) * vSM4)) + ((4 : Int32) * vAES256)) + ((8 : Int32) * vSM3)))])) _
    refine XS.imul X23.here hx rfl (hb hby at_133) rfl ?_
    show Steps p.tables e below (T23.setTop (mkF m 134 #[.val (.int p1), .val (.int vLZ77), .val (.int vSM4), .val (.int vAES256), .val (.int vSM3), .val (.int vSHA1), .val (.int vRESERVED), .val (.int (1 : Int32)), .unset] [(.int ((16 : Int32) * vSHA1)), (.int (((vLZ77 + ((2 : Int32) * vSM4)) + ((4 : Int32) * vAES256)) + ((8 : Int32) * vSM3)))])) _
    refine XS.iadd X23.here hx rfl (hb hby at_134) rfl ?_
    show Steps p.tables e below (T23.setTop (mkF m 135 #[.val (.int p1), .val (.int vLZ77), .val (.int vSM4), .val (.int vAES256), .val (.int vSM3), .val (.int vSHA1), .val (.int vRESERVED), .val (.int (1 : Int32)), .unset] [(.int ((((vLZ77 + ((2 : Int32) * vSM4)) + ((4 : Int32) * vAES256)) + ((8 : Int32) * vSM3)) + ((16 : Int32) * vSHA1)))])) _
    refine XS.bipush X23.here hx rfl (hb hby at_135) ?_
    show Steps p.tables e below (T23.setTop (mkF m 137 #[.val (.int p1), .val (.int vLZ77), .val (.int vSM4), .val (.int vAES256), .val (.int vSM3), .val (.int vSHA1), .val (.int vRESERVED), .val (.int (1 : Int32)), .unset] [(.int (32 : Int32)), (.int ((((vLZ77 + ((2 : Int32) * vSM4)) + ((4 : Int32) * vAES256)) + ((8 : Int32) * vSM3)) + ((16 : Int32) * vSHA1)))])) _
    refine XS.iload X23.here hx rfl (hb hby at_137) rfl ?_
    show Steps p.tables e below (T23.setTop (mkF m 139 #[.val (.int p1), .val (.int vLZ77), .val (.int vSM4), .val (.int vAES256), .val (.int vSM3), .val (.int vSHA1), .val (.int vRESERVED), .val (.int (1 : Int32)), .unset] [(.int vRESERVED), (.int (32 : Int32)), (.int ((((vLZ77 + ((2 : Int32) * vSM4)) + ((4 : Int32) * vAES256)) + ((8 : Int32) * vSM3)) + ((16 : Int32) * vSHA1)))])) _
    refine XS.imul X23.here hx rfl (hb hby at_139) rfl ?_
    show Steps p.tables e below (T23.setTop (mkF m 140 #[.val (.int p1), .val (.int vLZ77), .val (.int vSM4), .val (.int vAES256), .val (.int vSM3), .val (.int vSHA1), .val (.int vRESERVED), .val (.int (1 : Int32)), .unset] [(.int ((32 : Int32) * vRESERVED)), (.int ((((vLZ77 + ((2 : Int32) * vSM4)) + ((4 : Int32) * vAES256)) + ((8 : Int32) * vSM3)) + ((16 : Int32) * vSHA1)))])) _
    refine XS.iadd X23.here hx rfl (hb hby at_140) rfl ?_
    show Steps p.tables e below (T23.setTop (mkF m 141 #[.val (.int p1), .val (.int vLZ77), .val (.int vSM4), .val (.int vAES256), .val (.int vSM3), .val (.int vSHA1), .val (.int vRESERVED), .val (.int (1 : Int32)), .unset] [(.int (((((vLZ77 + ((2 : Int32) * vSM4)) + ((4 : Int32) * vAES256)) + ((8 : Int32) * vSM3)) + ((16 : Int32) * vSHA1)) + ((32 : Int32) * vRESERVED)))])) _
    refine XS.istore X23.here hx rfl (hb hby at_141) rfl (l' := #[.val (.int p1), .val (.int vLZ77), .val (.int vSM4), .val (.int vAES256), .val (.int vSM3), .val (.int vSHA1), .val (.int vRESERVED), .val (.int (1 : Int32)), .val (.int (((((vLZ77 + ((2 : Int32) * vSM4)) + ((4 : Int32) * vAES256)) + ((8 : Int32) * vSM3)) + ((16 : Int32) * vSHA1)) + ((32 : Int32) * vRESERVED)))]) rfl ?_
    show Steps p.tables e below (T23.setTop (mkF m 143 #[.val (.int p1), .val (.int vLZ77), .val (.int vSM4), .val (.int vAES256), .val (.int vSM3), .val (.int vSHA1), .val (.int vRESERVED), .val (.int (1 : Int32)), .val (.int (((((vLZ77 + ((2 : Int32) * vSM4)) + ((4 : Int32) * vAES256)) + ((8 : Int32) * vSM3)) + ((16 : Int32) * vSHA1)) + ((32 : Int32) * vRESERVED)))] [])) _
    refine XS.iload X23.here hx rfl (hb hby at_143) rfl ?_
    show Steps p.tables e below (T23.setTop (mkF m 145 #[.val (.int p1), .val (.int vLZ77), .val (.int vSM4), .val (.int vAES256), .val (.int vSM3), .val (.int vSHA1), .val (.int vRESERVED), .val (.int (1 : Int32)), .val (.int (((((vLZ77 + ((2 : Int32) * vSM4)) + ((4 : Int32) * vAES256)) + ((8 : Int32) * vSM3)) + ((16 : Int32) * vSHA1)) + ((32 : Int32) * vRESERVED)))] [(.int (((((vLZ77 + ((2 : Int32) * vSM4)) + ((4 : Int32) * vAES256)) + ((8 : Int32) * vSM3)) + ((16 : Int32) * vSHA1)) + ((32 : Int32) * vRESERVED)))])) _
    refine XS.iloadN X23.here hx rfl (hb hby at_145) rfl ?_
    show Steps p.tables e below (T23.setTop (mkF m 146 #[.val (.int p1), .val (.int vLZ77), .val (.int vSM4), .val (.int vAES256), .val (.int vSM3), .val (.int vSHA1), .val (.int vRESERVED), .val (.int (1 : Int32)), .val (.int (((((vLZ77 + ((2 : Int32) * vSM4)) + ((4 : Int32) * vAES256)) + ((8 : Int32) * vSM3)) + ((16 : Int32) * vSHA1)) + ((32 : Int32) * vRESERVED)))] [(.int p1), (.int (((((vLZ77 + ((2 : Int32) * vSM4)) + ((4 : Int32) * vAES256)) + ((8 : Int32) * vSM3)) + ((16 : Int32) * vSHA1)) + ((32 : Int32) * vRESERVED)))])) _
    refine XS.sipush X23.here hx rfl (hb hby at_146) ?_
    show Steps p.tables e below (T23.setTop (mkF m 149 #[.val (.int p1), .val (.int vLZ77), .val (.int vSM4), .val (.int vAES256), .val (.int vSM3), .val (.int vSHA1), .val (.int vRESERVED), .val (.int (1 : Int32)), .val (.int (((((vLZ77 + ((2 : Int32) * vSM4)) + ((4 : Int32) * vAES256)) + ((8 : Int32) * vSM3)) + ((16 : Int32) * vSHA1)) + ((32 : Int32) * vRESERVED)))] [(.int (255 : Int32)), (.int p1), (.int (((((vLZ77 + ((2 : Int32) * vSM4)) + ((4 : Int32) * vAES256)) + ((8 : Int32) * vSM3)) + ((16 : Int32) * vSHA1)) + ((32 : Int32) * vRESERVED)))])) _
    refine XS.iand X23.here hx rfl (hb hby at_149) rfl ?_
    show Steps p.tables e below (T23.setTop (mkF m 150 #[.val (.int p1), .val (.int vLZ77), .val (.int vSM4), .val (.int vAES256), .val (.int vSM3), .val (.int vSHA1), .val (.int vRESERVED), .val (.int (1 : Int32)), .val (.int (((((vLZ77 + ((2 : Int32) * vSM4)) + ((4 : Int32) * vAES256)) + ((8 : Int32) * vSM3)) + ((16 : Int32) * vSHA1)) + ((32 : Int32) * vRESERVED)))] [(.int (p1 &&& (255 : Int32))), (.int (((((vLZ77 + ((2 : Int32) * vSM4)) + ((4 : Int32) * vAES256)) + ((8 : Int32) * vSM3)) + ((16 : Int32) * vSHA1)) + ((32 : Int32) * vRESERVED)))])) _
    refine XS.icmpNo X23.here hx rfl (hb hby at_150) rfl (teq ((own_fin rfl hLZ77 hSM4 hAES256 hSM3 hSHA1 hRESERVED) : (((((vLZ77 + ((2 : Int32) * vSM4)) + ((4 : Int32) * vAES256)) + ((8 : Int32) * vSM3)) + ((16 : Int32) * vSHA1)) + ((32 : Int32) * vRESERVED)) = (p1 &&& (255 : Int32)))).2 ?_
    show Steps p.tables e below (T23.setTop (mkF m 153 #[.val (.int p1), .val (.int vLZ77), .val (.int vSM4), .val (.int vAES256), .val (.int vSM3), .val (.int vSHA1), .val (.int vRESERVED), .val (.int (1 : Int32)), .val (.int (((((vLZ77 + ((2 : Int32) * vSM4)) + ((4 : Int32) * vAES256)) + ((8 : Int32) * vSM3)) + ((16 : Int32) * vSHA1)) + ((32 : Int32) * vRESERVED)))] [])) _
    refine XS.iconst X23.here hx rfl (hb hby at_153) ?_
    show Steps p.tables e below (T23.setTop (mkF m 154 #[.val (.int p1), .val (.int vLZ77), .val (.int vSM4), .val (.int vAES256), .val (.int vSM3), .val (.int vSHA1), .val (.int vRESERVED), .val (.int (1 : Int32)), .val (.int (((((vLZ77 + ((2 : Int32) * vSM4)) + ((4 : Int32) * vAES256)) + ((8 : Int32) * vSM3)) + ((16 : Int32) * vSHA1)) + ((32 : Int32) * vRESERVED)))] [(.int (1 : Int32))])) _
    refine XS.goto X23.here hx rfl (pc0 := 154) (pc' := 158) rfl (hb hby at_154) (by decide) (by decide) ?_
    exact k)
  obtain ⟨fs, hr, hrun, hended, hW, hsame⟩ := X23.leave (v := some (.int (nar .boolean (1 : Int32)))) (fun h => by rw [Bd.returns] at h; cases h)
  refine ⟨_, _, pre24 _ ?_, hrun, hended, _, _, rfl, ?_, ⟨_, rfl⟩, hW, hsame.mono (by decide) (by decide)⟩
  · show Steps p.tables e below (T23.setTop (mkF m 158 #[.val (.int p1), .val (.int vLZ77), .val (.int vSM4), .val (.int vAES256), .val (.int vSM3), .val (.int vSHA1), .val (.int vRESERVED), .val (.int (1 : Int32)), .val (.int (((((vLZ77 + ((2 : Int32) * vSM4)) + ((4 : Int32) * vAES256)) + ((8 : Int32) * vSM3)) + ((16 : Int32) * vSHA1)) + ((32 : Int32) * vRESERVED)))] [(.int (1 : Int32))])) _
    exact retN X23 hx (t := .boolean) Bd.returns (by simp) (hb hby at_158) hr
  · show QL n0 _ T23.heap _
    rw [e23]
    exact ⟨rfl, N23⟩
set_option maxRecDepth 65536 in
set_option maxHeartbeats 40000000 in
theorem comes_1 {Post : Tables → Env → Array Value → State → Outcome → State → Prop} (hpost : ∀ tb e args s v u, (limb_1_1.after args s (.returned v) u = true ∧ limb_1_2.after args s (.returned v) u = true ∧ True) → FrameEnd s (.returned v) u (Jvm.fieldLocs frame_1_writes args s ++ Jvm.arrayLocs frame_1_arrays args s ++ Jvm.staticLocs frame_1_statics s) 0 0 → Post tb e args s (.returned v) u) :
    ArmFor flags0 classFile x code maxLocals ret World_1 tables_1 room_1 Calls_1 rest_1 Pre_1 Post := by
  intro l hfl _ _ p e ha hc hk s m args below hf hA hF happ hP
  obtain ⟨hcalls, hrest, hpre⟩ := hP
  obtain ⟨-, -, -, hnamed, -, -, -, hat⟩ := (Spec.applies_iff hf).mp happ
  obtain ⟨hg, hn⟩ := and_e (Cond.before_iff.mp (show (Jvm.Cond.and given_1 narrow_1).before args s = true from hpre))
  obtain ⟨gc, gr0⟩ := and_e hg
  have ga0 := gr0
  obtain ⟨w0, rfl⟩ : ∃ w0 : Value, args = #[w0] := by
    have hs : args.size = 1 := by simpa [Cond.value, given_1] using gc
    obtain ⟨L⟩ := args
    match L, hs with
    | [w0], _ => exact ⟨w0, rfl⟩
  have hw := fun d (hd : d ∈ tables_1) => atoms_spec (ws := Jvm.Cond.code x code maxLocals ret :: tables_1) hat d (List.mem_cons_of_mem _ hd)
  have hfit : Fit s := fun {y c} hc i hi => by
    obtain ⟨ha, rfl⟩ := Array.getElem?_eq_some_iff.mp hc
    have q := List.all_eq_true.mp ((Array.all_eq_true_iff_forall_mem.mp hF) _ (Array.getElem_mem ha)) i (List.mem_range.mpr hi)
    simpa [Array.getElem?_eq_getElem hi] using q
  obtain ⟨i0, ei0⟩ := is_v ga0
  obtain rfl : w0 = (.int i0) := Option.some.inj ei0
  obtain ⟨c0, r0⟩ := and_e hn
  obtain ⟨c1, r1⟩ := and_e r0
  obtain ⟨c2, r2⟩ := and_e r1
  obtain ⟨c3, r3⟩ := and_e r2
  obtain ⟨c4, r4⟩ := and_e r3
  obtain ⟨c5, r5⟩ := and_e r4
  obtain ⟨c6, r6⟩ := and_e r5
  obtain ⟨c7, r7⟩ := and_e r6
  obtain ⟨c8, r8⟩ := and_e r7
  obtain ⟨c9, r9⟩ := and_e r8
  obtain ⟨c10, r10⟩ := and_e r9
  obtain ⟨c11, r11⟩ := and_e r10
  obtain ⟨c12, r12⟩ := and_e r11
  obtain ⟨c13, r13⟩ := and_e r12
  obtain ⟨c14, r14⟩ := and_e r13
  obtain ⟨c15, r15⟩ := and_e r14
  obtain ⟨c16, r16⟩ := and_e r15
  have c17 := r16
  obtain ⟨a_LZ77, ea_LZ77⟩ := exa_v c0
  have S_LZ77 := Sta.start ea_LZ77 (Or.inr ⟨(hw _ (List.mem_of_getElem? (i := 1) rfl)), (hw _ (List.mem_of_getElem? (i := 2) rfl))⟩)
  have E_LZ77 := Exa.start ea_LZ77 c0
  obtain ⟨a_SM4, ea_SM4⟩ := exa_v c3
  have S_SM4 := Sta.start ea_SM4 (Or.inr ⟨(hw _ (List.mem_of_getElem? (i := 1) rfl)), (hw _ (List.mem_of_getElem? (i := 13) rfl))⟩)
  have E_SM4 := Exa.start ea_SM4 c3
  obtain ⟨a_AES256, ea_AES256⟩ := exa_v c6
  have S_AES256 := Sta.start ea_AES256 (Or.inr ⟨(hw _ (List.mem_of_getElem? (i := 1) rfl)), (hw _ (List.mem_of_getElem? (i := 15) rfl))⟩)
  have E_AES256 := Exa.start ea_AES256 c6
  obtain ⟨a_SM3, ea_SM3⟩ := exa_v c9
  have S_SM3 := Sta.start ea_SM3 (Or.inr ⟨(hw _ (List.mem_of_getElem? (i := 1) rfl)), (hw _ (List.mem_of_getElem? (i := 17) rfl))⟩)
  have E_SM3 := Exa.start ea_SM3 c9
  obtain ⟨a_SHA1, ea_SHA1⟩ := exa_v c12
  have S_SHA1 := Sta.start ea_SHA1 (Or.inr ⟨(hw _ (List.mem_of_getElem? (i := 1) rfl)), (hw _ (List.mem_of_getElem? (i := 19) rfl))⟩)
  have E_SHA1 := Exa.start ea_SHA1 c12
  obtain ⟨a_RESERVED, ea_RESERVED⟩ := exa_v c15
  have S_RESERVED := Sta.start ea_RESERVED (Or.inr ⟨(hw _ (List.mem_of_getElem? (i := 1) rfl)), (hw _ (List.mem_of_getElem? (i := 21) rfl))⟩)
  have E_RESERVED := Exa.start ea_RESERVED c15
  have F_LZ77_shift := own_fldI ea_LZ77 c1
  have F_LZ77_bits := own_fldI ea_LZ77 c2
  have F_SM4_shift := own_fldI ea_SM4 c4
  have F_SM4_bits := own_fldI ea_SM4 c5
  have F_AES256_shift := own_fldI ea_AES256 c7
  have F_AES256_bits := own_fldI ea_AES256 c8
  have F_SM3_shift := own_fldI ea_SM3 c10
  have F_SM3_bits := own_fldI ea_SM3 c11
  have F_SHA1_shift := own_fldI ea_SHA1 c13
  have F_SHA1_bits := own_fldI ea_SHA1 c14
  have F_RESERVED_shift := own_fldI ea_RESERVED c16
  have F_RESERVED_bits := own_fldI ea_RESERVED c17
  obtain ⟨n, o, h1, h2, h3, _, L, rfl, ⟨rfl, N⟩, hq⟩ := rm0 l s _ hw tables_1 i0 a_LZ77 a_SM4 a_AES256 a_SM3 a_SHA1 a_RESERVED s.heap s.heap.size (Nat.le_refl _) S_LZ77 E_LZ77 S_SM4 E_SM4 S_AES256 E_AES256 S_SM3 E_SM3 S_SHA1 E_SHA1 S_RESERVED E_RESERVED F_LZ77_shift F_LZ77_bits F_SM4_shift F_SM4_bits F_AES256_shift F_AES256_bits F_SM3_shift F_SM3_bits F_SHA1_shift F_SHA1_bits F_RESERVED_shift F_RESERVED_bits p e ha hc hk s m _ below hf ((Spec.applies_iff_loose hf).mp happ).1 ⟨rfl, State.Warmed39.refl s, rfl⟩ trivial
  refine ⟨n, _, h1, h2, h3, hpost _ _ _ _ _ _ ⟨Cond.after_iff.mpr rfl, Cond.after_iff.mpr (eq_i res_at (Term.int_eval (1)) rfl), trivial⟩ ⟨hq.1, hq.2.1, (hq.2.2.sift fun y hy => Or.inr (N y hy)).mono (by decide) (by decide)⟩⟩
theorem main_1_1 : Claimed_1_1 := comes_1 fun _ _ _ _ _ _ h hF => ⟨h.1, hF⟩
theorem main_1_2 : Claimed_1_2 := comes_1 fun _ _ _ _ _ _ h hF => ⟨h.2.1, hF⟩
end Jvm.Pilot.@@N@@
namespace Jvm.Pilot.@@N@@
open Jvm Jvm.ClassFile Sem Op Lib Jvm.Free Jvm.Stand Jvm.Pilot.@@N@@.Jvm.D
/-! MADE BY PROGRAM (witnessworld.py) out of the Statement's table words and the real class files: 12 classes; the members and pool entries that the words name. The judged class is class 1, her method 1. -/
namespace start1
open Jvm.ClassFile
def u (s : String) : CpInfo := .utf8 (stringToUtf16 s)
/-- a pool by its gaps: so many unusable entries, then the entry; so many at the end -/
def gap : Nat → List CpInfo → List CpInfo
  | 0, r => r
  | n + 1, r => .unusable :: gap n r
def poolList (es : List (Nat × CpInfo)) (last : Nat) : List CpInfo := es.foldr (fun e r => gap e.1 (e.2 :: r)) (gap last [])
def pool (es : List (Nat × CpInfo)) (last : Nat) : Array CpInfo := ⟨poolList es last⟩
def fileOf (pool : Array CpInfo) (this : Nat) (attrs : Array Attribute := #[]) (ms : Array MethodInfo := #[]) (fl : Nat := 33) (sup : Nat := 0) (ifs : Array Nat := #[]) (fds : Array FieldInfo := #[]) : ClassFile where
  minorVersion := 0
  majorVersion := 65
  constantPool := pool
  accessFlags := fl
  thisClass := this
  superClass := sup
  interfaces := ifs
  fields := fds
  methods := ms
  attributes := attrs
def plain (name : String) (sup : Option ClassId) : Class where
  name := name
  kind := .ordinary
  loader := none
  accessFlags := 33
  super := sup
  interfaces := #[]
  cf := none
  fields := #[]
  methods := #[]
  instanceTypes := #[]
  staticTypes := #[]
  resolved := #[]
  callSites := []
  init := .initialized
  statics := none
  mirror := none

def pool0 : Array CpInfo := pool [(5, u "<init>"), (0, u "()V"), (1, .class_ 10), (1, u "java/lang/Object")] 113

def k0m0 : Method := { name := "<init>", desc := "()V", sig := { parameters := [], returnType := none }, accessFlags := 1, code := none }
/-- java/lang/Object -/
def k0 : Class := { plain "java/lang/Object" none with
  accessFlags := 33
  interfaces := #[]
  cf := some (fileOf pool0 8 #[] #[{ accessFlags := 1, nameIndex := 5, descriptorIndex := 6, attributes := #[] }] 33 0 #[] #[])
  fields := #[]
  methods := #[k0m0]
  instanceTypes := #[]
  staticTypes := #[]
  resolved := Array.replicate 124 none
  statics := none }

def pool1 : Array CpInfo := pool [(2, .class_ 4), (1, u "java/lang/Object"), (0, u "<init>"), (0, u "()V"), (0, .fieldref 8 9), (0, .class_ 10), (0, .nameAndType 11 12), (0, u "com/example/wirecraft/wirecraft/protocols/otc/OtcCodec$Flag"), (0, u "LZ77"), (0, u "Lcom/example/wirecraft/wirecraft/protocols/otc/OtcCodec$Flag;"), (0, .methodref 8 14), (0, .nameAndType 15 16), (0, u "of"), (0, u "(I)I"), (0, .fieldref 8 18), (0, .nameAndType 19 12), (0, u "SM4"), (0, .fieldref 8 21), (0, .nameAndType 22 12), (0, u "AES256"), (0, .fieldref 8 24), (0, .nameAndType 25 12), (0, u "SM3"), (0, .fieldref 8 27), (0, .nameAndType 28 12), (0, u "SHA1"), (0, .fieldref 8 30), (0, .nameAndType 31 12), (0, u "RESERVED"), (0, .methodref 33 34), (0, .class_ 35), (0, .nameAndType 36 37), (0, u "com/example/wirecraft/wirecraft/protocols/otc/FlagOfPinLaw"), (0, u "bit"), (0, u "(I)Z"), (2, u "law")] 7

def k1m0 : Method := { name := "<init>", desc := "()V", sig := { parameters := [], returnType := none }, accessFlags := 2, code := none }
def k1c1 : Code := { maxStack := 3, maxLocals := 9, code := code, exceptionTable := #[], attributes := #[] }
def k1m1 : Method := { name := "law", desc := "(I)Z", sig := { parameters := [.int], returnType := some .boolean }, accessFlags := 9, code := some k1c1 }
def k1c2 : Code := { maxStack := 2, maxLocals := 1, code := method_3_code, exceptionTable := #[], attributes := #[] }
def k1m2 : Method := { name := "bit", desc := "(I)Z", sig := { parameters := [.int], returnType := some .boolean }, accessFlags := 10, code := some k1c2 }
/-- com/example/wirecraft/wirecraft/protocols/otc/FlagOfPinLaw -/
def k1 : Class := { plain "com/example/wirecraft/wirecraft/protocols/otc/FlagOfPinLaw" (some 0) with
  accessFlags := 49
  interfaces := #[]
  cf := some (fileOf pool1 33 #[] #[{ accessFlags := 2, nameIndex := 5, descriptorIndex := 6, attributes := #[] }, { accessFlags := 9, nameIndex := 40, descriptorIndex := 37, attributes := #[] }, { accessFlags := 10, nameIndex := 36, descriptorIndex := 37, attributes := #[] }] 49 2 #[] #[])
  fields := #[]
  methods := #[k1m0, k1m1, k1m2]
  instanceTypes := #[]
  staticTypes := #[]
  resolved := Array.replicate 48 none
  statics := none }

def pool2 : Array CpInfo := pool [(1, .class_ 2), (0, u "java/lang/constant/Constable"), (0, .class_ 4), (0, u "java/lang/Object")] 6

/-- java/lang/constant/Constable -/
def k2 : Class := { plain "java/lang/constant/Constable" (some 0) with
  accessFlags := 1537
  interfaces := #[]
  cf := some (fileOf pool2 1 #[] #[] 1537 3 #[] #[])
  fields := #[]
  methods := #[]
  instanceTypes := #[]
  staticTypes := #[]
  resolved := Array.replicate 11 none
  statics := none }

def pool3 : Array CpInfo := pool [(1, .class_ 2), (0, u "java/lang/Comparable"), (0, .class_ 4), (0, u "java/lang/Object")] 7

/-- java/lang/Comparable -/
def k3 : Class := { plain "java/lang/Comparable" (some 0) with
  accessFlags := 1537
  interfaces := #[]
  cf := some (fileOf pool3 1 #[] #[] 1537 3 #[] #[])
  fields := #[]
  methods := #[]
  instanceTypes := #[]
  staticTypes := #[]
  resolved := Array.replicate 12 none
  statics := none }

def pool4 : Array CpInfo := pool [(1, .class_ 2), (0, u "java/io/Serializable"), (0, .class_ 4), (0, u "java/lang/Object")] 2

/-- java/io/Serializable -/
def k4 : Class := { plain "java/io/Serializable" (some 0) with
  accessFlags := 1537
  interfaces := #[]
  cf := some (fileOf pool4 1 #[] #[] 1537 3 #[] #[])
  fields := #[]
  methods := #[]
  instanceTypes := #[]
  staticTypes := #[]
  resolved := Array.replicate 7 none
  statics := none }

def pool5 : Array CpInfo := pool [(2, .class_ 4), (1, u "java/lang/Enum"), (0, u "name"), (0, u "Ljava/lang/String;"), (2, u "ordinal"), (0, u "I"), (1, .class_ 14), (1, u "java/lang/Object"), (4, u "hash"), (86, .class_ 108), (1, u "java/lang/Enum$EnumDesc"), (2, .class_ 112), (0, u "java/lang/constant/Constable"), (0, .class_ 114), (0, u "java/lang/Comparable"), (0, .class_ 116), (0, u "java/io/Serializable")] 87

/-- java/lang/Enum -/
def k5 : Class := { plain "java/lang/Enum" (some 0) with
  accessFlags := 1057
  interfaces := #[2, 3, 4]
  cf := some (fileOf pool5 2 #[.nestMembers #[106]] #[] 1057 12 #[111, 113, 115] #[{ accessFlags := 18, nameIndex := 5, descriptorIndex := 6, attributes := #[] }, { accessFlags := 18, nameIndex := 9, descriptorIndex := 10, attributes := #[] }, { accessFlags := 2, nameIndex := 19, descriptorIndex := 10, attributes := #[] }])
  fields := #[{ name := "name", type := (.object "java/lang/String"), accessFlags := 18, slot := 0, constantValue := 0 }, { name := "ordinal", type := .int, accessFlags := 18, slot := 1, constantValue := 0 }, { name := "hash", type := .int, accessFlags := 2, slot := 2, constantValue := 0 }]
  methods := #[]
  instanceTypes := #[(.object "java/lang/String"), .int, .int]
  staticTypes := #[]
  resolved := Array.replicate 204 none
  statics := none }

def pool6 : Array CpInfo := pool [(1, .class_ 2), (0, u "com/example/wirecraft/wirecraft/protocols/otc/OtcCodec"), (0, .class_ 4), (0, u "com/example/wirecraft/wirecraft/protocols/otc/OtcCodec$Flag"), (2, u "LZ77"), (0, u "Lcom/example/wirecraft/wirecraft/protocols/otc/OtcCodec$Flag;"), (2, u "SM4"), (2, u "AES256"), (2, u "SM3"), (2, u "SHA1"), (2, u "RESERVED"), (2, u "$VALUES"), (0, u "[Lcom/example/wirecraft/wirecraft/protocols/otc/OtcCodec$Flag;"), (6, .class_ 36), (1, u "java/lang/Enum"), (12, u "field"), (0, u "Ljava/lang/String;"), (0, .fieldref 3 52), (0, .nameAndType 53 54), (0, u "shift"), (0, u "I"), (0, .fieldref 3 56), (0, .nameAndType 57 54), (0, u "bits"), (2, u "of"), (0, u "(I)I")] 48

def k6c0 : Code := { maxStack := 3, maxLocals := 2, code := prog_60_method_5_code, exceptionTable := #[], attributes := #[] }
def k6m0 : Method := { name := "of", desc := "(I)I", sig := { parameters := [.int], returnType := some .int }, accessFlags := 0, code := some k6c0 }
/-- com/example/wirecraft/wirecraft/protocols/otc/OtcCodec$Flag -/
def k6 : Class := { plain "com/example/wirecraft/wirecraft/protocols/otc/OtcCodec$Flag" (some 5) with
  accessFlags := 16432
  interfaces := #[]
  cf := some (fileOf pool6 3 #[.nestHost 1] #[{ accessFlags := 0, nameIndex := 60, descriptorIndex := 61, attributes := #[] }] 16432 34 #[] #[{ accessFlags := 16409, nameIndex := 7, descriptorIndex := 8, attributes := #[] }, { accessFlags := 16409, nameIndex := 11, descriptorIndex := 8, attributes := #[] }, { accessFlags := 16409, nameIndex := 14, descriptorIndex := 8, attributes := #[] }, { accessFlags := 16409, nameIndex := 17, descriptorIndex := 8, attributes := #[] }, { accessFlags := 16409, nameIndex := 20, descriptorIndex := 8, attributes := #[] }, { accessFlags := 16409, nameIndex := 23, descriptorIndex := 8, attributes := #[] }, { accessFlags := 18, nameIndex := 49, descriptorIndex := 50, attributes := #[] }, { accessFlags := 18, nameIndex := 53, descriptorIndex := 54, attributes := #[] }, { accessFlags := 18, nameIndex := 57, descriptorIndex := 54, attributes := #[] }, { accessFlags := 4122, nameIndex := 26, descriptorIndex := 27, attributes := #[] }])
  fields := #[{ name := "LZ77", type := (.object "com/example/wirecraft/wirecraft/protocols/otc/OtcCodec$Flag"), accessFlags := 16409, slot := 0, constantValue := 0 }, { name := "SM4", type := (.object "com/example/wirecraft/wirecraft/protocols/otc/OtcCodec$Flag"), accessFlags := 16409, slot := 1, constantValue := 0 }, { name := "AES256", type := (.object "com/example/wirecraft/wirecraft/protocols/otc/OtcCodec$Flag"), accessFlags := 16409, slot := 2, constantValue := 0 }, { name := "SM3", type := (.object "com/example/wirecraft/wirecraft/protocols/otc/OtcCodec$Flag"), accessFlags := 16409, slot := 3, constantValue := 0 }, { name := "SHA1", type := (.object "com/example/wirecraft/wirecraft/protocols/otc/OtcCodec$Flag"), accessFlags := 16409, slot := 4, constantValue := 0 }, { name := "RESERVED", type := (.object "com/example/wirecraft/wirecraft/protocols/otc/OtcCodec$Flag"), accessFlags := 16409, slot := 5, constantValue := 0 }, { name := "field", type := (.object "java/lang/String"), accessFlags := 18, slot := 3, constantValue := 0 }, { name := "shift", type := .int, accessFlags := 18, slot := 4, constantValue := 0 }, { name := "bits", type := .int, accessFlags := 18, slot := 5, constantValue := 0 }, { name := "$VALUES", type := (.array (.object "com/example/wirecraft/wirecraft/protocols/otc/OtcCodec$Flag")), accessFlags := 4122, slot := 6, constantValue := 0 }]
  methods := #[k6m0]
  instanceTypes := #[(.object "java/lang/String"), .int, .int, (.object "java/lang/String"), .int, .int]
  staticTypes := #[(.object "com/example/wirecraft/wirecraft/protocols/otc/OtcCodec$Flag"), (.object "com/example/wirecraft/wirecraft/protocols/otc/OtcCodec$Flag"), (.object "com/example/wirecraft/wirecraft/protocols/otc/OtcCodec$Flag"), (.object "com/example/wirecraft/wirecraft/protocols/otc/OtcCodec$Flag"), (.object "com/example/wirecraft/wirecraft/protocols/otc/OtcCodec$Flag"), (.object "com/example/wirecraft/wirecraft/protocols/otc/OtcCodec$Flag"), (.array (.object "com/example/wirecraft/wirecraft/protocols/otc/OtcCodec$Flag"))]
  resolved := Array.replicate 110 none
  statics := some 0 }

def pool7 : Array CpInfo := pool [(1, u "java/lang/Cloneable"), (0, .class_ 1), (0, u "java/lang/Object"), (0, .class_ 3)] 3

/-- java/lang/Cloneable -/
def k7 : Class := { plain "java/lang/Cloneable" (some 0) with
  accessFlags := 1537
  interfaces := #[]
  cf := some (fileOf pool7 2 #[] #[] 1537 4 #[] #[])
  fields := #[]
  methods := #[]
  instanceTypes := #[]
  staticTypes := #[]
  resolved := Array.replicate 8 none
  statics := none }

/-- the primitive byte -/
def k8 : Class := { plain "byte" none with kind := .primitive 'B', accessFlags := 0x411 }
/-- [B -/
def k9 : Class := { plain "[B" (some 0) with kind := .array 8 .byte, interfaces := #[7, 4], accessFlags := 1041 }

/-- the primitive int -/
def k10 : Class := { plain "int" none with kind := .primitive 'I', accessFlags := 0x411 }
/-- [I -/
def k11 : Class := { plain "[I" (some 0) with kind := .array 10 .int, interfaces := #[7, 4], accessFlags := 1041 }

def heap : Heap := #[{ cls := 6, slots := #[.ref 1, .ref 2, .ref 3, .ref 4, .ref 5, .ref 6, .null], vm := .statics 6 },
  { cls := 6, slots := #[.null, .int 0, .int 0, .null, .int 0, .int 1], vm := .none },
  { cls := 6, slots := #[.null, .int 0, .int 0, .null, .int 1, .int 1], vm := .none },
  { cls := 6, slots := #[.null, .int 0, .int 0, .null, .int 2, .int 1], vm := .none },
  { cls := 6, slots := #[.null, .int 0, .int 0, .null, .int 3, .int 1], vm := .none },
  { cls := 6, slots := #[.null, .int 0, .int 0, .null, .int 4, .int 1], vm := .none },
  { cls := 6, slots := #[.null, .int 0, .int 0, .null, .int 5, .int 3], vm := .none }]
def classes : Array Class := #[k0, k1, k2, k3, k4, k5, k6, k7, k8, k9, k10, k11]
def interned : List (Array UInt16 × Addr) := []
def slotsUsed : Nat := 43
def theMethod : MethodId := ⟨1, 1⟩
def args0 : Array Value := #[.int 5]
def aboutOver (below : List Frame) : State where
  vm := { classes := classes, interned := interned.toArray }
  heap := heap
  slotsUsed := slotsUsed
  threads := #[{ frames := .invoking theMethod args0 :: below }]
def below0 : List Frame := [.native { method := ⟨0, 0⟩, args := #[] }]
def about1 : State := aboutOver below0
def p0 : Program := .bare "" "" ""
def e0 : Env := launch0.env 0 0 0
theorem w_frames : about1.frames = Frame.invoking theMethod args0 :: below0 := rfl
set_option maxRecDepth 65536 in
theorem w_args : argsFit about1.vm theMethod args0 = true := by decide +kernel
set_option maxRecDepth 65536 in
theorem w_heap : heapFits about1 = true := by decide +kernel
set_option maxRecDepth 65536 in
theorem w_runnable : about1.curStatus? = some .runnable := by decide +kernel
set_option maxRecDepth 65536 in
theorem w_alone : about1.alone = true := by decide +kernel
set_option maxRecDepth 65536 in
theorem w_named : about1.methodNamed? x = some theMethod := by decide +kernel
set_option maxRecDepth 65536 in
theorem w_hears : about1.hears theMethod below0 = true := by decide +kernel
set_option maxRecDepth 65536 in
theorem w_ripe : about1.ripe theMethod args0 below0 = true := by decide +kernel
theorem w_running : about1.status = .running := rfl
set_option maxRecDepth 65536 in
theorem w_room : about1.hasRoom e0.platform room_1 = true :=
  launch0.hasRoom_least _ room_1 (by decide +kernel) (by decide +kernel) (by decide +kernel) (by decide +kernel) (by decide +kernel) (by decide +kernel)
theorem allAtoms_all (ts : List Jvm.Cond) (a : Array Jvm.Value) (st : Jvm.State) : (allAtoms ts).before a st = ts.all (fun c => c.before a st) := by
  induction ts with
  | nil => rfl
  | cons c t ih =>
    show (Jvm.Cond.and c (allAtoms t)).before a st = _
    rw [Jvm.Cond.before_and, ih, List.all_cons]
def words1 : List Jvm.Cond := Jvm.Cond.code x code maxLocals ret :: tables_1
/-- a 'code' word, met by the world's own term for the bytes: nothing is compared byte by byte -/
theorem code_word {y : MethodName} {bytes : ByteArray} {mx : Nat} {rt : Option FieldType} {a : Array Value} {s : State} {m : MethodId} {meth : Method} {c : Code} (h1 : s.methodNamed? y = some m) (h2 : s.vm.method? m = some meth) (h3 : meth.code = some c) (h4 : c.code = bytes)
    (h5 : (c.maxLocals == mx && c.exceptionTable.isEmpty && decide (c.maxStack ≤ mostOperands) && decide (meth.sig.returnType = rt) && !meth.locks && decide (parseMethodDescriptor y.desc = some meth.sig)) = true) : (Jvm.Cond.code y bytes mx rt).before a s = true := by
  simp only [Bool.and_eq_true, beq_iff_eq, Bool.not_eq_true', decide_eq_true_eq] at h5
  obtain ⟨⟨⟨⟨⟨g1, g2⟩, g3⟩, g4⟩, g5⟩, g6⟩ := h5
  simp [Cond.before, Cond.holds, Cond.value, h1, h2, h3, h4, g1, g2, g3, g4, g5, g6]
def isCode : Jvm.Cond → Bool
  | .code _ _ _ _ => true
  | _ => false
theorem all_split {L : List Jvm.Cond} {P : Jvm.Cond → Bool} (h1 : L.all (fun c => isCode c || P c) = true) (h2 : ∀ c ∈ L.filter isCode, P c = true) : L.all P = true := by
  refine List.all_eq_true.mpr fun c hc => ?_
  have h := List.all_eq_true.mp h1 c hc
  rcases Bool.eq_false_or_eq_true (isCode c) with hi | hi
  · exact h2 c (List.mem_filter.mpr ⟨hc, hi⟩)
  · simpa [hi] using h
set_option maxRecDepth 65536 in
theorem w_c0 : (Jvm.Cond.code x code maxLocals ret).before args0 about1 = true := code_word (m := ⟨1, 1⟩) (meth := k1m1) (c := k1c1) (by decide +kernel) rfl rfl rfl (by decide +kernel)
set_option maxRecDepth 65536 in
theorem w_c1 : (Jvm.Cond.code ({ cls := "com/example/wirecraft/wirecraft/protocols/otc/OtcCodec$Flag", name := "of", desc := "(I)I" } : Jvm.MethodName) prog_60_method_5_code (2 : Nat) (Option.some Jvm.ClassFile.FieldType.int)).before args0 about1 = true := code_word (m := ⟨6, 0⟩) (meth := k6m0) (c := k6c0) (by decide +kernel) rfl rfl rfl (by decide +kernel)
set_option maxRecDepth 65536 in
theorem w_c2 : (Jvm.Cond.code ({ cls := "com/example/wirecraft/wirecraft/protocols/otc/FlagOfPinLaw", name := "bit", desc := "(I)Z" } : Jvm.MethodName) method_3_code (1 : Nat) (Option.some Jvm.ClassFile.FieldType.boolean)).before args0 about1 = true := code_word (m := ⟨1, 2⟩) (meth := k1m2) (c := k1c2) (by decide +kernel) rfl rfl rfl (by decide +kernel)
def codes1 : List Jvm.Cond := [Jvm.Cond.code x code maxLocals ret, Jvm.Cond.code ({ cls := "com/example/wirecraft/wirecraft/protocols/otc/OtcCodec$Flag", name := "of", desc := "(I)I" } : Jvm.MethodName) prog_60_method_5_code (2 : Nat) (Option.some Jvm.ClassFile.FieldType.int), Jvm.Cond.code ({ cls := "com/example/wirecraft/wirecraft/protocols/otc/FlagOfPinLaw", name := "bit", desc := "(I)Z" } : Jvm.MethodName) method_3_code (1 : Nat) (Option.some Jvm.ClassFile.FieldType.boolean)]
set_option maxRecDepth 65536 in
theorem codes_eq : words1.filter isCode = codes1 := rfl
theorem w_codes : ∀ c ∈ words1.filter isCode, c.before args0 about1 = true := by
  rw [codes_eq]
  intro c hc
  simp only [codes1, List.mem_cons, List.not_mem_nil, or_false] at hc
  rcases hc with rfl | rfl | rfl
  · exact w_c0
  · exact w_c1
  · exact w_c2
set_option maxRecDepth 65536 in
theorem w_t1 : (words1.take 24).all (fun c => isCode c || c.before args0 about1) = true := by decide +kernel
set_option maxRecDepth 65536 in
theorem w_t2 : (words1.drop 24).all (fun c => isCode c || c.before args0 about1) = true := by decide +kernel
theorem w_tables : (allAtoms (Jvm.Cond.code x code maxLocals ret :: tables_1)).before args0 about1 = true := by
  rw [allAtoms_all]
  show words1.all (fun c => c.before args0 about1) = true
  refine all_split ?_ w_codes
  rw [← List.take_append_drop 24 words1, List.all_append, w_t1, w_t2]
  rfl
set_option maxRecDepth 65536 in
theorem w_case : (Jvm.Cond.and given_1 narrow_1).before args0 about1 = true := by decide +kernel
theorem w_applies : (headSpec (Jvm.Cond.code x code maxLocals ret :: tables_1) room_1).applies x e0.platform about1 = true :=
  (Spec.applies_iff w_frames).mpr ⟨w_running, w_runnable, w_alone, w_named, w_hears, w_ripe, w_room, w_tables⟩
theorem atStart : AtStart classFile x code maxLocals ret World_1 tables_1 room_1 Calls_1 rest_1 Pre_1 launch0 p0 e0 about1 theMethod args0 below0 :=
  ⟨lists_1, trivial, launch0.admits_env _ _ _, launch0.least_env, fairChoices_fair.cas, fairChoices_fair.clock, w_frames, w_args, w_heap, w_applies, trivial, trivial, w_case⟩
end start1
theorem witness_1 : WitnessClaimed_1 := ⟨start1.p0, start1.e0, start1.about1, start1.theMethod, start1.args0, start1.below0, start1.atStart⟩
end Jvm.Pilot.@@N@@
