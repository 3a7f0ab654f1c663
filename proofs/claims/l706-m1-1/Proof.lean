import JvmDerived
import JvmDerived.Pilot.@@N@@Statement
import JvmDerived.Pilot.@@N@@Code
set_option linter.unusedVariables false
set_option linter.unusedSimpArgs false
namespace Jvm.RoadKit
open Sem ClassFile Op Lib Jvm.Stand Jvm.Free Jvm.LawKit
section New
variable {p : Program} {l : Launch} {e : Env} {R : Room} {s : State} {m : MethodId} {args : Array Value} {below : List Frame} {meth : Method} {c : Code} {T : State} {locs : List Loc} {cells slots : Nat}
theorem retI (X : Stand p l e R s m args below meth c T locs cells slots) (hx : p.tables.exec = Jvm.exec) {pc : Nat} {Ls : Array Slot} {z : Int32} {rest : List Value} (hret : meth.sig.returnType = some .int) (hd : decode c.code pc = .ok (.ireturn, 1)) {fs : List Frame}
    (hl : ∀ (f : JFrame) (acts : List Action), f.method = m → f.locked = none → f.entered = [] → (doReturn e (T.setTop f) acts (some (.int z))).1 = T.setFrames fs) : Steps p.tables e below (T.setTop (mkF m pc Ls (.int z :: rest))) (T.setFrames fs) := by
  have hm' : T.vm.method? m = some meth := X.method'
  have hn : narrow .int (.int z) = .int z := rfl
  show Steps p.tables e below (T.setTop { method := m, pc := pc, locals := Ls, stack := _ :: rest, locked := none }) _
  jvm_step X.here [X.here.top, hx, hd, hm', hret, hn]
  first | (intro acts; rw [hl _ acts rfl rfl rfl]) | rw [hl _ _ rfl rfl rfl]
  exact Steps.refl _
end New
end Jvm.RoadKit
namespace Jvm.Pilot.@@N@@
open Jvm Jvm.ClassFile Sem Op Lib Jvm.Free Jvm.Stand Jvm.LawKit Jvm.RoadKit Bundle Jvm.Pilot.@@N@@.Jvm.D

theorem own_exa {args a0 : Array Value} {s : State} {C n d K : String} (wi : (Jvm.Cond.initialized C).before args s = true) (wl : (Jvm.Cond.laysStatic C n d).before args s = true) (h : (Jvm.Cond.exactly (Jvm.Term.static C n d) K).value args s none s [] = some true) : ∃ a, Sta s s.heap C n d (.ref a) ∧ Exa s s.heap a K ∧ (Jvm.Term.static C n d).eval args s none [] s = some (.ref a) := by
  obtain ⟨a, ev⟩ := exa_v h
  exact ⟨a, Sta.start ev (Or.inr ⟨wi, wl⟩), Exa.start ev h, ev⟩
theorem own_fldI {args : Array Value} {s : State} {a : Addr} {t : Jvm.Term} {C n d : String} {k : Int32} (ev : t.eval args s none [] s = some (.ref a)) (h : (Jvm.Cond.eq (Jvm.Term.field t C n d) (Jvm.Term.int k)).value args s none s [] = some true) : Fld s s.heap a C n d (.int k) := by
  obtain ⟨x, y, ex, ey, -, ky⟩ := cmp_v (Or.inl h)
  obtain rfl : Value.int k = y := Option.some.inj ey
  obtain ⟨z, rfl⟩ := ky
  have hz : z = k := by simpa [Cond.value, ex, ey] using h
  subst hz
  exact Fld.start ((fld_at ev).symm.trans ex)

def own_m1 (z : Int64) : Int64 := ((z ^^^ ((z.toUInt64 >>> ((30 : Int32) &&& 0x3f).toInt64.toUInt64).toInt64)) * (-4658895280553007687 : Int64))
def own_m2 (z : Int64) : Int64 := ((z ^^^ ((z.toUInt64 >>> ((27 : Int32) &&& 0x3f).toInt64.toUInt64).toInt64)) * (-7723592293110705685 : Int64))
def own_m3 (z : Int64) : Int64 := (z ^^^ ((z.toUInt64 >>> ((31 : Int32) &&& 0x3f).toInt64.toUInt64).toInt64))
def own_u1 (z : Int64) : Int64 := (((z ^^^ ((z.toUInt64 >>> ((31 : Int32) &&& 0x3f).toInt64.toUInt64).toInt64)) ^^^ ((z.toUInt64 >>> ((62 : Int32) &&& 0x3f).toInt64.toUInt64).toInt64)) * (3573116690164977347 : Int64))
def own_u2 (z : Int64) : Int64 := (((z ^^^ ((z.toUInt64 >>> ((27 : Int32) &&& 0x3f).toInt64.toUInt64).toInt64)) ^^^ ((z.toUInt64 >>> ((54 : Int32) &&& 0x3f).toInt64.toUInt64).toInt64)) * (-7575587736534282103 : Int64))
def own_u3 (z : Int64) : Int64 := ((z ^^^ ((z.toUInt64 >>> ((30 : Int32) &&& 0x3f).toInt64.toUInt64).toInt64)) ^^^ ((z.toUInt64 >>> ((60 : Int32) &&& 0x3f).toInt64.toUInt64).toInt64))
theorem own_sh (x : BitVec 64) (k j : Nat) (h : 64 ≤ k + j) : (x >>> k) >>> j = 0#64 := by
  rw [← BitVec.shiftRight_add]; exact BitVec.ushiftRight_eq_zero (by omega)
theorem own_inv30 (x : BitVec 64) : (((x ^^^ (x >>> 30)) ^^^ ((x ^^^ (x >>> 30)) >>> 30)) ^^^ ((x ^^^ (x >>> 30)) >>> 60)) = x := by
  simp only [BitVec.ushiftRight_xor_distrib, ← BitVec.shiftRight_add]
  rw [show x >>> (30 + 60) = 0#64 from BitVec.ushiftRight_eq_zero (by omega)]
  generalize x >>> 30 = a
  show ((x ^^^ a) ^^^ (a ^^^ x >>> 60)) ^^^ (x >>> 60 ^^^ 0#64) = x
  generalize x >>> 60 = b
  rw [BitVec.xor_zero, BitVec.xor_assoc x a, ← BitVec.xor_assoc a a b, BitVec.xor_self, BitVec.zero_xor, BitVec.xor_assoc, BitVec.xor_self, BitVec.xor_zero]
theorem own_inv27 (x : BitVec 64) : (((x ^^^ (x >>> 27)) ^^^ ((x ^^^ (x >>> 27)) >>> 27)) ^^^ ((x ^^^ (x >>> 27)) >>> 54)) = x := by
  simp only [BitVec.ushiftRight_xor_distrib, ← BitVec.shiftRight_add]
  rw [show x >>> (27 + 54) = 0#64 from BitVec.ushiftRight_eq_zero (by omega)]
  generalize x >>> 27 = a
  show ((x ^^^ a) ^^^ (a ^^^ x >>> 54)) ^^^ (x >>> 54 ^^^ 0#64) = x
  generalize x >>> 54 = b
  rw [BitVec.xor_zero, BitVec.xor_assoc x a, ← BitVec.xor_assoc a a b, BitVec.xor_self, BitVec.zero_xor, BitVec.xor_assoc, BitVec.xor_self, BitVec.xor_zero]
theorem own_inv31 (x : BitVec 64) : (((x ^^^ (x >>> 31)) ^^^ ((x ^^^ (x >>> 31)) >>> 31)) ^^^ ((x ^^^ (x >>> 31)) >>> 62)) = x := by
  simp only [BitVec.ushiftRight_xor_distrib, ← BitVec.shiftRight_add]
  rw [show x >>> (31 + 62) = 0#64 from BitVec.ushiftRight_eq_zero (by omega)]
  generalize x >>> 31 = a
  show ((x ^^^ a) ^^^ (a ^^^ x >>> 62)) ^^^ (x >>> 62 ^^^ 0#64) = x
  generalize x >>> 62 = b
  rw [BitVec.xor_zero, BitVec.xor_assoc x a, ← BitVec.xor_assoc a a b, BitVec.xor_self, BitVec.zero_xor, BitVec.xor_assoc, BitVec.xor_self, BitVec.xor_zero]
theorem own_us (z : Int64) (q : Int32) (k : Nat) (hk : ((q &&& 0x3f).toInt64.toUInt64).toBitVec = BitVec.ofNat 64 k) (hl : k < 64) : ((z.toUInt64 >>> (q &&& 0x3f).toInt64.toUInt64).toInt64).toBitVec = z.toBitVec >>> k := by
  show z.toBitVec >>> (((q &&& 0x3f).toInt64.toUInt64).toBitVec % 64#64) = _
  rw [hk, BitVec.ushiftRight_eq']
  congr 1
  rw [BitVec.toNat_umod, BitVec.toNat_ofNat]
  show k % 2 ^ 64 % 64 = k
  omega
theorem own_x30 (z : Int64) : own_u3 (z ^^^ ((z.toUInt64 >>> ((30 : Int32) &&& 0x3f).toInt64.toUInt64).toInt64)) = z := by
  apply Int64.toBitVec_inj.mp
  show (((z ^^^ ((z.toUInt64 >>> ((30 : Int32) &&& 0x3f).toInt64.toUInt64).toInt64)) ^^^ _) ^^^ _ : Int64).toBitVec = _
  simp only [Int64.toBitVec_xor, own_us _ 30 30 (by decide) (by decide), own_us _ 60 60 (by decide) (by decide)]
  exact own_inv30 _
theorem own_x27 (z : Int64) : (((z ^^^ ((z.toUInt64 >>> ((27 : Int32) &&& 0x3f).toInt64.toUInt64).toInt64)) ^^^ (((z ^^^ ((z.toUInt64 >>> ((27 : Int32) &&& 0x3f).toInt64.toUInt64).toInt64)).toUInt64 >>> ((27 : Int32) &&& 0x3f).toInt64.toUInt64).toInt64)) ^^^ (((z ^^^ ((z.toUInt64 >>> ((27 : Int32) &&& 0x3f).toInt64.toUInt64).toInt64)).toUInt64 >>> ((54 : Int32) &&& 0x3f).toInt64.toUInt64).toInt64)) = z := by
  apply Int64.toBitVec_inj.mp
  simp only [Int64.toBitVec_xor, own_us _ 27 27 (by decide) (by decide), own_us _ 54 54 (by decide) (by decide)]
  exact own_inv27 _
theorem own_x31 (z : Int64) : (((z ^^^ ((z.toUInt64 >>> ((31 : Int32) &&& 0x3f).toInt64.toUInt64).toInt64)) ^^^ (((z ^^^ ((z.toUInt64 >>> ((31 : Int32) &&& 0x3f).toInt64.toUInt64).toInt64)).toUInt64 >>> ((31 : Int32) &&& 0x3f).toInt64.toUInt64).toInt64)) ^^^ (((z ^^^ ((z.toUInt64 >>> ((31 : Int32) &&& 0x3f).toInt64.toUInt64).toInt64)).toUInt64 >>> ((62 : Int32) &&& 0x3f).toInt64.toUInt64).toInt64)) = z := by
  apply Int64.toBitVec_inj.mp
  simp only [Int64.toBitVec_xor, own_us _ 31 31 (by decide) (by decide), own_us _ 62 62 (by decide) (by decide)]
  exact own_inv31 _
theorem own_i2 (z : Int64) : own_u1 (own_m3 (own_m2 z)) = (z ^^^ ((z.toUInt64 >>> ((27 : Int32) &&& 0x3f).toInt64.toUInt64).toInt64)) := by
  show (((own_m3 (own_m2 z) ^^^ _) ^^^ _) * _ : Int64) = _
  rw [own_m3, own_x31, own_m2, Int64.mul_assoc, show ((-7723592293110705685 : Int64) * (3573116690164977347 : Int64) : Int64) = 1 from by decide, Int64.mul_one]
theorem own_i1 (z : Int64) : own_u2 (own_m1 z ^^^ (((own_m1 z).toUInt64 >>> ((27 : Int32) &&& 0x3f).toInt64.toUInt64).toInt64)) = (z ^^^ ((z.toUInt64 >>> ((30 : Int32) &&& 0x3f).toInt64.toUInt64).toInt64)) := by
  show ((((own_m1 z ^^^ _) ^^^ _) ^^^ _) * _ : Int64) = _
  rw [own_x27, own_m1, Int64.mul_assoc, show ((-4658895280553007687 : Int64) * (-7575587736534282103 : Int64) : Int64) = 1 from by decide, Int64.mul_one]
theorem own_un (z : Int64) : own_u3 (own_u2 (own_u1 (own_m3 (own_m2 (own_m1 z))))) = z := by rw [own_i2, own_i1, own_x30]
theorem d2_0 : decode jdk_30_method_1_code 0 = .ok (.aload_n 0, 1) := by decide +kernel
theorem d2_1 : decode jdk_30_method_1_code 1 = .ok (.invokespecial 1, 3) := by decide +kernel
theorem d2_4 : decode jdk_30_method_1_code 4 = .ok (.return_, 1) := by decide +kernel
theorem ef_rm2 (m : MethodId) (x0 : Addr) : entryFrame m #[(.ref x0)] 1 = mkF m 0 #[.val (.ref x0)] [] := by first | (simp [entryFrame, mkF, argsToLocals, Value.category]; done) | rfl
theorem pn_0 : plainName "java/lang/Record" = true := by first | (simp [plainName, overriddenIn]; done) | decide +kernel
def Q2 (Z : State) (a0 : Addr) (h0 : Heap) (n0 : Nat) (v : Option Value) (h : Heap) (L : List Loc) : Prop := v = none ∧ Fr n0 L ∧ h = h0
set_option maxRecDepth 65536 in
set_option maxHeartbeats 40000000 in
theorem rm2 (l : Launch) (Z : State) (aw : Array Value) (hw : ∀ d ∈ tables_1, d.before aw Z = true) (ws : List Jvm.Cond) (a0 : Addr) (h0 : Heap) (n0 : Nat) (Z0 : n0 ≤ h0.size) :
    MetFree l (⟨"java/lang/Record", "<init>", "()V"⟩ : MethodName) (head1 (Jvm.Cond.code (⟨"java/lang/Record", "<init>", "()V"⟩ : MethodName) jdk_30_method_1_code 1 none :: ws) ({ frames := 1, cells := 0, slots := 0, locals := 12 } : Room)) (fun a U => a = #[(.ref a0)] ∧ Z.Warmed39 U.vm ∧ U.heap = h0) (fun _ _ _ _ _ => True) (fun _ U o U' => ∃ v L, o = .returned v ∧ Q2 Z a0 h0 n0 v U'.heap L ∧ FrameEnd U o U' L ({ frames := 1, cells := 0, slots := 0, locals := 12 } : Room).cells ({ frames := 1, cells := 0, slots := 0, locals := 12 } : Room).slots) := by
  refine MetFree.of_bodySF (plainFor_of_name pn_0) hisR ?_
  intro p e s m args below meth c s₁ Bd hml0 hP hK
  obtain ⟨rfl, hZ, hh⟩ := hP
  have hx := Bd.exec
  have hby := Bd.bytes
  have hml : c.maxLocals = 1 := hml0
  have hown : s.vm.findClass "java/lang/Record" = some m.cls := findClass_of_methodNamed Bd.named
  have hnm := (name_of_methodNamed Bd.named Bd.method).1
  have X0 : Stand p l e ({ frames := 1, cells := 0, slots := 0, locals := 12 } : Room) s m #[(.ref a0)] below meth c s₁ [] 0 0 := Stand.of_body Bd
  have e0 : s₁.heap = h0 := by rw [← hh, Bd.state]; rfl
  have N0 := Fr.nil n0
  have pre0 : ∀ t, Steps p.tables e below (s₁.setTop (mkF m 0 #[.val (.ref a0)] [])) t → Steps p.tables e below (s₁.setTop (entryFrame m #[(.ref a0)] 1)) t := fun t k => castTop (ef_rm2 m a0) k
  obtain ⟨T1, X1, e1, st1⟩ := initO X0 hx hZ hown (hw _ (List.mem_of_getElem? (i := 12) rfl)) (hw _ (List.mem_of_getElem? (i := 13) rfl)) (hw _ (List.mem_of_getElem? (i := 14) rfl)) e0 (g := (mkF m 1 #[.val (.ref a0)] [(.ref a0)])) rfl (by rw [hml]; rfl) rfl (hb hby d2_1) (by decide) (W := 0) (by show 2 * 0 + _ ≤ _; exact Nat.le_of_eq rfl) (by decide)
  obtain ⟨fs, hr, hrun, hended, hW, hsame⟩ := X1.leave (v := none) (fun _ => rfl)
  refine ⟨_, _, pre0 _ ?_, hrun, hended, _, _, rfl, ?_, ⟨_, rfl⟩, hW, hsame.mono (by decide) (by decide)⟩
  · show Steps p.tables e below (s₁.setTop (mkF m 0 #[.val (.ref a0)] [])) _
    refine XS.aloadN X0.here hx rfl (hb hby d2_0) rfl rfl ?_
    show Steps p.tables e below (s₁.setTop (mkF m 1 #[.val (.ref a0)] [(.ref a0)])) _
    refine st1 _ ?_
    show Steps p.tables e below (T1.setTop (mkF m 4 #[.val (.ref a0)] [])) _
    exact X1.returnOut hx Bd.returns (hb hby d2_4) hr
  · show Q2 Z a0 h0 n0 _ T1.heap _
    rw [e1]
    exact ⟨rfl, N0, rfl⟩
theorem d1_0 : decode prog_23_method_1_code 0 = .ok (.aload_n 0, 1) := by decide +kernel
theorem d1_1 : decode prog_23_method_1_code 1 = .ok (.invokespecial 5, 3) := by decide +kernel
theorem pd_0 : parseMethodDescriptor "()V" = some ⟨[], none⟩ := by decide +kernel
theorem d1_4 : decode prog_23_method_1_code 4 = .ok (.lload_n 1, 1) := by decide +kernel
theorem d1_5 : decode prog_23_method_1_code 5 = .ok (.lconst 1, 1) := by decide +kernel
theorem d1_6 : decode prog_23_method_1_code 6 = .ok (.lcmp, 1) := by decide +kernel
theorem d1_7 : decode prog_23_method_1_code 7 = .ok (.ifCond .lt 11, 3) := by decide +kernel
theorem d1_10 : decode prog_23_method_1_code 10 = .ok (.lload_n 1, 1) := by decide +kernel
theorem d1_11 : decode prog_23_method_1_code 11 = .ok (.ldc2_w 11, 3) := by decide +kernel
theorem d1_14 : decode prog_23_method_1_code 14 = .ok (.lcmp, 1) := by decide +kernel
theorem d1_15 : decode prog_23_method_1_code 15 = .ok (.ifCond .le 17, 3) := by decide +kernel
theorem d1_32 : decode prog_23_method_1_code 32 = .ok (.aload_n 0, 1) := by decide +kernel
theorem d1_33 : decode prog_23_method_1_code 33 = .ok (.lload_n 1, 1) := by decide +kernel
theorem d1_34 : decode prog_23_method_1_code 34 = .ok (.putfield 22, 3) := by decide +kernel
theorem d1_37 : decode prog_23_method_1_code 37 = .ok (.return_, 1) := by decide +kernel
theorem ef_rm1 (m : MethodId) (x0 : Addr) (x1 : Int64) : entryFrame m #[(.ref x0), (.long x1)] 3 = mkF m 0 #[.val (.ref x0), .val (.long x1), .second] [] := by first | (simp [entryFrame, mkF, argsToLocals, Value.category]; done) | rfl
theorem pn_1 : plainName "com/example/unanimity/unanimity/cli/Tpcb" = true := by first | (simp [plainName, overriddenIn]; done) | decide +kernel
def Q1 (Z : State) (a0 : Addr) (q1 : Int64) (h0 : Heap) (n0 : Nat) (v : Option Value) (h : Heap) (L : List Loc) : Prop := v = none ∧ Fr n0 L ∧ Keep h0 h [a0] ∧ Exa Z h a0 "com/example/unanimity/unanimity/cli/Tpcb" ∧ Fld Z h a0 "com/example/unanimity/unanimity/cli/Tpcb" "branches" "J" (.long q1)
set_option maxRecDepth 65536 in
set_option maxHeartbeats 40000000 in
theorem rm1 (l : Launch) (Z : State) (aw : Array Value) (hw : ∀ d ∈ tables_1, d.before aw Z = true) (ws : List Jvm.Cond) (a0 : Addr) (q1 : Int64) (h0 : Heap) (n0 : Nat) (Z0 : n0 ≤ h0.size) (E0 : Exa Z h0 a0 "com/example/unanimity/unanimity/cli/Tpcb") (F0 : Fld Z h0 a0 "com/example/unanimity/unanimity/cli/Tpcb" "branches" "J" (.long (0 : Int64))) (g0 : n0 ≤ a0) (hb1 : ¬ q1 < (1 : Int64)) (hb2 : ¬ (92233720368547 : Int64) < q1) :
    MetFree l (⟨"com/example/unanimity/unanimity/cli/Tpcb", "<init>", "(J)V"⟩ : MethodName) (head1 (Jvm.Cond.code (⟨"com/example/unanimity/unanimity/cli/Tpcb", "<init>", "(J)V"⟩ : MethodName) prog_23_method_1_code 3 none :: ws) ({ frames := 2, cells := 0, slots := 0, locals := 24 } : Room)) (fun a U => a = #[(.ref a0), (.long q1)] ∧ Z.Warmed39 U.vm ∧ U.heap = h0) (fun _ _ _ _ _ => True) (fun _ U o U' => ∃ v L, o = .returned v ∧ Q1 Z a0 q1 h0 n0 v U'.heap L ∧ FrameEnd U o U' L ({ frames := 2, cells := 0, slots := 0, locals := 24 } : Room).cells ({ frames := 2, cells := 0, slots := 0, locals := 24 } : Room).slots) := by
  refine MetFree.of_bodySF (plainFor_of_name pn_1) hisR ?_
  intro p e s m args below meth c s₁ Bd hml0 hP hK
  obtain ⟨rfl, hZ, hh⟩ := hP
  have hx := Bd.exec
  have hby := Bd.bytes
  have hml : c.maxLocals = 3 := hml0
  have hown : s.vm.findClass "com/example/unanimity/unanimity/cli/Tpcb" = some m.cls := findClass_of_methodNamed Bd.named
  have hnm := (name_of_methodNamed Bd.named Bd.method).1
  have X0 : Stand p l e ({ frames := 2, cells := 0, slots := 0, locals := 24 } : Room) s m #[(.ref a0), (.long q1)] below meth c s₁ [] 0 0 := Stand.of_body Bd
  have e0 : s₁.heap = h0 := by rw [← hh, Bd.state]; rfl
  have N0 := Fr.nil n0
  have pre0 : ∀ t, Steps p.tables e below (s₁.setTop (mkF m 0 #[.val (.ref a0), .val (.long q1), .second] [])) t → Steps p.tables e below (s₁.setTop (entryFrame m #[(.ref a0), (.long q1)] 3)) t := fun t k => castTop (ef_rm1 m a0 q1) k
  obtain ⟨_, _, ⟨T1, L1, k1, n1⟩, -, X1, ⟨Lc1, hQ1, l1, y1, z1⟩, st1⟩ := X0.specialBack hx (y := (⟨"java/lang/Record", "<init>", "()V"⟩ : MethodName)) rfl hown (mvT hZ (hw _ (List.mem_of_getElem? (i := 7) rfl))) (mvT hZ (hw _ (List.mem_of_getElem? (i := 8) rfl))) (mvT hZ (hw _ (List.mem_of_getElem? (i := 11) rfl))) (by decide) (backOf (W := 0) (rm2 l Z aw hw [] a0 h0 n0 Z0 ) hZ (hw _ (List.mem_of_getElem? (i := 11) rfl)) (hw _ (List.mem_of_getElem? (i := 10) rfl)) (by decide) (by decide)) (g := (mkF m 1 #[.val (.ref a0), .val (.long q1), .second] [(.ref a0)])) rfl (by rw [hml]; rfl) (Steps.refl _) (a := a0) (argsL := []) (rest := []) (lenOf pd_0 rfl) rfl (by show 2 * 0 + _ ≤ _; exact Nat.le_of_eq rfl) (hb hby d1_1) (fun _ _ => ⟨rfl, e0, (by decide : 0 + 0 ≤ _), (by decide : 0 + 0 ≤ _)⟩)
  dsimp only [Pt.U, Pt.locs, Pt.cells, Pt.slots] at X1 l1 y1 z1 st1 hQ1
  subst l1 y1 z1
  obtain ⟨rfl, N1q, e1⟩ := hQ1
  have N1 := Fr.app N0 N1q
  obtain ⟨T2, h2, X2, e2, W2, st2⟩ := putF X1 hx hZ hown (host := "") (Or.inl (hw _ (List.mem_of_getElem? (i := 16) rfl))) Via.refl e1 F0 E0 (Or.inr ⟨(hw _ (List.mem_of_getElem? (i := 17) rfl)), rfl, hnm⟩) (hw _ (List.mem_of_getElem? (i := 1) rfl)) (ty := .long) (by decide) rfl rfl (g := (mkF m 34 #[.val (.ref a0), .val (.long q1), .second] [(.long q1), (.ref a0)])) rfl rfl (hb hby d1_34)
  have f3 := E0.wr W2
  have f4 := F0.same W2
  have K2 : Keep h0 h2 [a0] := (Keep.refl h0 [a0]).wr W2 (Or.inl (List.mem_of_getElem? (i := 0) rfl))
  have N2 := Fr.snoc X2 N1 g0
  have Z2 : n0 ≤ h2.size := Nat.le_trans Z0 (Keep.of_wr W2).1
  obtain ⟨fs, hr, hrun, hended, hW, hsame⟩ := X2.leave (v := none) (fun _ => rfl)
  refine ⟨_, _, pre0 _ ?_, hrun, hended, _, _, rfl, ?_, ⟨_, rfl⟩, hW, hsame.mono (by decide) (by decide)⟩
  · show Steps p.tables e below (s₁.setTop (mkF m 0 #[.val (.ref a0), .val (.long q1), .second] [])) _
    refine XS.aloadN X0.here hx rfl (hb hby d1_0) rfl rfl ?_
    show Steps p.tables e below (s₁.setTop (mkF m 1 #[.val (.ref a0), .val (.long q1), .second] [(.ref a0)])) _
    refine st1.trans ?_
    show Steps p.tables e below (T1.setTop (mkF m 4 #[.val (.ref a0), .val (.long q1), .second] [])) _
    refine XS.lloadN X1.here hx rfl (hb hby d1_4) rfl ?_
    show Steps p.tables e below (T1.setTop (mkF m 5 #[.val (.ref a0), .val (.long q1), .second] [(.long q1)])) _
    refine XS.lconst X1.here hx rfl (hb hby d1_5) ?_
    show Steps p.tables e below (T1.setTop (mkF m 6 #[.val (.ref a0), .val (.long q1), .second] [(.long (1 : Int64)), (.long q1)])) _
    refine XS.lcmp X1.here hx rfl (hb hby d1_6) rfl ?_
    show Steps p.tables e below (T1.setTop (mkF m 7 #[.val (.ref a0), .val (.long q1), .second] [(.int (lcmpW q1 (1 : Int64)))])) _
    refine XS.ifNo X1.here hx rfl (hb hby d1_7) rfl ((if0 _ _).trans (flt (fun q => hb1 ((lw_lt q1 (1 : Int64)).mp q))).1) ?_
    show Steps p.tables e below (T1.setTop (mkF m 10 #[.val (.ref a0), .val (.long q1), .second] [])) _
    refine XS.lloadN X1.here hx rfl (hb hby d1_10) rfl ?_
    show Steps p.tables e below (T1.setTop (mkF m 11 #[.val (.ref a0), .val (.long q1), .second] [(.long q1)])) _
    refine X1.ldc2Long hx hown (mvT hZ (hw _ (List.mem_of_getElem? (i := 15) rfl))) (g := (mkF m 11 #[.val (.ref a0), .val (.long q1), .second] [(.long q1)])) rfl (hb hby d1_11) _ ?_
    show Steps p.tables e below (T1.setTop (mkF m 14 #[.val (.ref a0), .val (.long q1), .second] [(.long (92233720368547 : Int64)), (.long q1)])) _
    refine XS.lcmp X1.here hx rfl (hb hby d1_14) rfl ?_
    show Steps p.tables e below (T1.setTop (mkF m 15 #[.val (.ref a0), .val (.long q1), .second] [(.int (lcmpW q1 (92233720368547 : Int64)))])) _
    refine XS.ifYes X1.here hx rfl (pc0 := 15) (pc' := 32) rfl (hb hby d1_15) rfl ((if0 _ _).trans (flt (fun q => hb2 ((lw_gt q1 (92233720368547 : Int64)).mp q))).2.2.2) (by decide) (by decide) ?_
    show Steps p.tables e below (T1.setTop (mkF m 32 #[.val (.ref a0), .val (.long q1), .second] [])) _
    refine XS.aloadN X1.here hx rfl (hb hby d1_32) rfl rfl ?_
    show Steps p.tables e below (T1.setTop (mkF m 33 #[.val (.ref a0), .val (.long q1), .second] [(.ref a0)])) _
    refine XS.lloadN X1.here hx rfl (hb hby d1_33) rfl ?_
    show Steps p.tables e below (T1.setTop (mkF m 34 #[.val (.ref a0), .val (.long q1), .second] [(.long q1), (.ref a0)])) _
    refine st2 _ ?_
    show Steps p.tables e below (T2.setTop (mkF m 37 #[.val (.ref a0), .val (.long q1), .second] [])) _
    exact X2.returnOut hx Bd.returns (hb hby d1_37) hr
  · show Q1 Z a0 q1 h0 n0 _ T2.heap _
    rw [e2]
    exact ⟨rfl, N2, K2, f3, f4⟩
theorem d4_0 : decode prog_6_method_1_code 0 = .ok (.aload_n 0, 1) := by decide +kernel
theorem d4_1 : decode prog_6_method_1_code 1 = .ok (.invokespecial 1, 3) := by decide +kernel
theorem d4_4 : decode prog_6_method_1_code 4 = .ok (.aload_n 0, 1) := by decide +kernel
theorem d4_5 : decode prog_6_method_1_code 5 = .ok (.aload_n 1, 1) := by decide +kernel
theorem d4_6 : decode prog_6_method_1_code 6 = .ok (.putfield 7, 3) := by decide +kernel
theorem d4_9 : decode prog_6_method_1_code 9 = .ok (.aload_n 0, 1) := by decide +kernel
theorem d4_10 : decode prog_6_method_1_code 10 = .ok (.lload_n 2, 1) := by decide +kernel
theorem d4_11 : decode prog_6_method_1_code 11 = .ok (.putfield 13, 3) := by decide +kernel
theorem d4_14 : decode prog_6_method_1_code 14 = .ok (.return_, 1) := by decide +kernel
theorem ef_rm4 (m : MethodId) (x0 : Addr) (x1 : Addr) (x2 : Int64) : entryFrame m #[(.ref x0), (.ref x1), (.long x2)] 4 = mkF m 0 #[.val (.ref x0), .val (.ref x1), .val (.long x2), .second] [] := by first | (simp [entryFrame, mkF, argsToLocals, Value.category]; done) | rfl
theorem pn_2 : plainName "com/example/unanimity/unanimity/cli/Draws" = true := by first | (simp [plainName, overriddenIn]; done) | decide +kernel
def Q4 (Z : State) (a0 : Addr) (a1 : Addr) (q2 : Int64) (h0 : Heap) (n0 : Nat) (v : Option Value) (h : Heap) (L : List Loc) : Prop := v = none ∧ Fr n0 L ∧ Keep h0 h [a0] ∧ Exa Z h a0 "com/example/unanimity/unanimity/cli/Draws" ∧ Fld Z h a0 "com/example/unanimity/unanimity/cli/Draws" "data" "Lcom/example/unanimity/unanimity/cli/Tpcb;" (.ref a1) ∧ Fld Z h a0 "com/example/unanimity/unanimity/cli/Draws" "state" "J" (.long q2)
set_option maxRecDepth 65536 in
set_option maxHeartbeats 40000000 in
theorem rm4 (l : Launch) (Z : State) (aw : Array Value) (hw : ∀ d ∈ tables_1, d.before aw Z = true) (ws : List Jvm.Cond) (a0 : Addr) (a1 : Addr) (q2 : Int64) (h0 : Heap) (n0 : Nat) (Z0 : n0 ≤ h0.size) (E0 : Exa Z h0 a0 "com/example/unanimity/unanimity/cli/Draws") (F0 : Fld Z h0 a0 "com/example/unanimity/unanimity/cli/Draws" "data" "Lcom/example/unanimity/unanimity/cli/Tpcb;" .null) (F1 : Fld Z h0 a0 "com/example/unanimity/unanimity/cli/Draws" "state" "J" (.long (0 : Int64))) (g0 : n0 ≤ a0) :
    MetFree l (⟨"com/example/unanimity/unanimity/cli/Draws", "<init>", "(Lcom/example/unanimity/unanimity/cli/Tpcb;J)V"⟩ : MethodName) (head1 (Jvm.Cond.code (⟨"com/example/unanimity/unanimity/cli/Draws", "<init>", "(Lcom/example/unanimity/unanimity/cli/Tpcb;J)V"⟩ : MethodName) prog_6_method_1_code 4 none :: ws) ({ frames := 1, cells := 0, slots := 0, locals := 12 } : Room)) (fun a U => a = #[(.ref a0), (.ref a1), (.long q2)] ∧ Z.Warmed39 U.vm ∧ U.heap = h0) (fun _ _ _ _ _ => True) (fun _ U o U' => ∃ v L, o = .returned v ∧ Q4 Z a0 a1 q2 h0 n0 v U'.heap L ∧ FrameEnd U o U' L ({ frames := 1, cells := 0, slots := 0, locals := 12 } : Room).cells ({ frames := 1, cells := 0, slots := 0, locals := 12 } : Room).slots) := by
  refine MetFree.of_bodySF (plainFor_of_name pn_2) hisR ?_
  intro p e s m args below meth c s₁ Bd hml0 hP hK
  obtain ⟨rfl, hZ, hh⟩ := hP
  have hx := Bd.exec
  have hby := Bd.bytes
  have hml : c.maxLocals = 4 := hml0
  have hown : s.vm.findClass "com/example/unanimity/unanimity/cli/Draws" = some m.cls := findClass_of_methodNamed Bd.named
  have hnm := (name_of_methodNamed Bd.named Bd.method).1
  have X0 : Stand p l e ({ frames := 1, cells := 0, slots := 0, locals := 12 } : Room) s m #[(.ref a0), (.ref a1), (.long q2)] below meth c s₁ [] 0 0 := Stand.of_body Bd
  have e0 : s₁.heap = h0 := by rw [← hh, Bd.state]; rfl
  have N0 := Fr.nil n0
  have pre0 : ∀ t, Steps p.tables e below (s₁.setTop (mkF m 0 #[.val (.ref a0), .val (.ref a1), .val (.long q2), .second] [])) t → Steps p.tables e below (s₁.setTop (entryFrame m #[(.ref a0), (.ref a1), (.long q2)] 4)) t := fun t k => castTop (ef_rm4 m a0 a1 q2) k
  obtain ⟨T1, X1, e1, st1⟩ := initO X0 hx hZ hown (hw _ (List.mem_of_getElem? (i := 24) rfl)) (hw _ (List.mem_of_getElem? (i := 13) rfl)) (hw _ (List.mem_of_getElem? (i := 14) rfl)) e0 (g := (mkF m 1 #[.val (.ref a0), .val (.ref a1), .val (.long q2), .second] [(.ref a0)])) rfl (by rw [hml]; rfl) rfl (hb hby d4_1) (by decide) (W := 0) (by show 2 * 0 + _ ≤ _; exact Nat.le_of_eq rfl) (by decide)
  obtain ⟨T2, h2, X2, e2, W2, st2⟩ := putF X1 hx hZ hown (host := "") (Or.inl (hw _ (List.mem_of_getElem? (i := 25) rfl))) Via.refl e1 F0 E0 (Or.inr ⟨(hw _ (List.mem_of_getElem? (i := 26) rfl)), rfl, hnm⟩) (hw _ (List.mem_of_getElem? (i := 19) rfl)) (ty := (.object "com/example/unanimity/unanimity/cli/Tpcb")) (by decide) rfl rfl (g := (mkF m 6 #[.val (.ref a0), .val (.ref a1), .val (.long q2), .second] [(.ref a1), (.ref a0)])) rfl rfl (hb hby d4_6)
  have f3 := E0.wr W2
  have f4 := F0.same W2
  have f5 := F1.other W2 (Or.inr (slot_ne (Or.inl (hw _ (List.mem_of_getElem? (i := 28) rfl))) (Or.inr (hw _ (List.mem_of_getElem? (i := 26) rfl))) (by decide) (t := .long) (t' := (.object "com/example/unanimity/unanimity/cli/Tpcb")) (by decide) (by decide)))
  have K2 : Keep h0 h2 [a0] := (Keep.refl h0 [a0]).wr W2 (Or.inl (List.mem_of_getElem? (i := 0) rfl))
  have N2 := Fr.snoc X2 N0 g0
  have Z2 : n0 ≤ h2.size := Nat.le_trans Z0 (Keep.of_wr W2).1
  obtain ⟨T6, h6, X6, e6, W6, st6⟩ := putF X2 hx hZ hown (host := "") (Or.inl (hw _ (List.mem_of_getElem? (i := 27) rfl))) Via.refl e2 f5 f3 (Or.inl (hw _ (List.mem_of_getElem? (i := 28) rfl))) (hw _ (List.mem_of_getElem? (i := 19) rfl)) (ty := .long) (by decide) rfl rfl (g := (mkF m 11 #[.val (.ref a0), .val (.ref a1), .val (.long q2), .second] [(.long q2), (.ref a0)])) rfl rfl (hb hby d4_11)
  have f7 := f3.wr W6
  have f8 := f4.other W6 (Or.inr (slot_ne (Or.inr (hw _ (List.mem_of_getElem? (i := 26) rfl))) (Or.inl (hw _ (List.mem_of_getElem? (i := 28) rfl))) (by decide) (t := (.object "com/example/unanimity/unanimity/cli/Tpcb")) (t' := .long) (by decide) (by decide)))
  have f9 := f5.same W6
  have K6 : Keep h0 h6 [a0] := K2.wr W6 (Or.inl (List.mem_of_getElem? (i := 0) rfl))
  have N6 := Fr.snoc X6 N2 g0
  have Z6 : n0 ≤ h6.size := Nat.le_trans Z2 (Keep.of_wr W6).1
  obtain ⟨fs, hr, hrun, hended, hW, hsame⟩ := X6.leave (v := none) (fun _ => rfl)
  refine ⟨_, _, pre0 _ ?_, hrun, hended, _, _, rfl, ?_, ⟨_, rfl⟩, hW, hsame.mono (by decide) (by decide)⟩
  · show Steps p.tables e below (s₁.setTop (mkF m 0 #[.val (.ref a0), .val (.ref a1), .val (.long q2), .second] [])) _
    refine XS.aloadN X0.here hx rfl (hb hby d4_0) rfl rfl ?_
    show Steps p.tables e below (s₁.setTop (mkF m 1 #[.val (.ref a0), .val (.ref a1), .val (.long q2), .second] [(.ref a0)])) _
    refine st1 _ ?_
    show Steps p.tables e below (T1.setTop (mkF m 4 #[.val (.ref a0), .val (.ref a1), .val (.long q2), .second] [])) _
    refine XS.aloadN X1.here hx rfl (hb hby d4_4) rfl rfl ?_
    show Steps p.tables e below (T1.setTop (mkF m 5 #[.val (.ref a0), .val (.ref a1), .val (.long q2), .second] [(.ref a0)])) _
    refine XS.aloadN X1.here hx rfl (hb hby d4_5) rfl rfl ?_
    show Steps p.tables e below (T1.setTop (mkF m 6 #[.val (.ref a0), .val (.ref a1), .val (.long q2), .second] [(.ref a1), (.ref a0)])) _
    refine st2 _ ?_
    show Steps p.tables e below (T2.setTop (mkF m 9 #[.val (.ref a0), .val (.ref a1), .val (.long q2), .second] [])) _
    refine XS.aloadN X2.here hx rfl (hb hby d4_9) rfl rfl ?_
    show Steps p.tables e below (T2.setTop (mkF m 10 #[.val (.ref a0), .val (.ref a1), .val (.long q2), .second] [(.ref a0)])) _
    refine XS.lloadN X2.here hx rfl (hb hby d4_10) rfl ?_
    show Steps p.tables e below (T2.setTop (mkF m 11 #[.val (.ref a0), .val (.ref a1), .val (.long q2), .second] [(.long q2), (.ref a0)])) _
    refine st6 _ ?_
    show Steps p.tables e below (T6.setTop (mkF m 14 #[.val (.ref a0), .val (.ref a1), .val (.long q2), .second] [])) _
    exact X6.returnOut hx Bd.returns (hb hby d4_14) hr
  · show Q4 Z a0 a1 q2 h0 n0 _ T6.heap _
    rw [e6]
    exact ⟨rfl, N6, K6, f7, f8, f9⟩
theorem d5_0 : decode prog_6_method_5_code 0 = .ok (.aload_n 0, 1) := by decide +kernel
theorem d5_1 : decode prog_6_method_5_code 1 = .ok (.dup, 1) := by decide +kernel
theorem d5_2 : decode prog_6_method_5_code 2 = .ok (.getfield 13, 3) := by decide +kernel
theorem d5_5 : decode prog_6_method_5_code 5 = .ok (.ldc2_w 66, 3) := by decide +kernel
theorem d5_8 : decode prog_6_method_5_code 8 = .ok (.ladd, 1) := by decide +kernel
theorem d5_9 : decode prog_6_method_5_code 9 = .ok (.putfield 13, 3) := by decide +kernel
theorem d5_12 : decode prog_6_method_5_code 12 = .ok (.aload_n 0, 1) := by decide +kernel
theorem d5_13 : decode prog_6_method_5_code 13 = .ok (.getfield 13, 3) := by decide +kernel
theorem d5_16 : decode prog_6_method_5_code 16 = .ok (.aload_n 0, 1) := by decide +kernel
theorem d5_17 : decode prog_6_method_5_code 17 = .ok (.getfield 13, 3) := by decide +kernel
theorem d5_20 : decode prog_6_method_5_code 20 = .ok (.bipush 30, 2) := by decide +kernel
theorem d5_22 : decode prog_6_method_5_code 22 = .ok (.lushr, 1) := by decide +kernel
theorem d5_23 : decode prog_6_method_5_code 23 = .ok (.lxor, 1) := by decide +kernel
theorem d5_24 : decode prog_6_method_5_code 24 = .ok (.ldc2_w 68, 3) := by decide +kernel
theorem d5_27 : decode prog_6_method_5_code 27 = .ok (.lmul, 1) := by decide +kernel
theorem d5_28 : decode prog_6_method_5_code 28 = .ok (.lstore_n 1, 1) := by decide +kernel
theorem d5_29 : decode prog_6_method_5_code 29 = .ok (.lload_n 1, 1) := by decide +kernel
theorem d5_30 : decode prog_6_method_5_code 30 = .ok (.lload_n 1, 1) := by decide +kernel
theorem d5_31 : decode prog_6_method_5_code 31 = .ok (.bipush 27, 2) := by decide +kernel
theorem d5_33 : decode prog_6_method_5_code 33 = .ok (.lushr, 1) := by decide +kernel
theorem d5_34 : decode prog_6_method_5_code 34 = .ok (.lxor, 1) := by decide +kernel
theorem d5_35 : decode prog_6_method_5_code 35 = .ok (.ldc2_w 70, 3) := by decide +kernel
theorem d5_38 : decode prog_6_method_5_code 38 = .ok (.lmul, 1) := by decide +kernel
theorem d5_39 : decode prog_6_method_5_code 39 = .ok (.lstore_n 1, 1) := by decide +kernel
theorem d5_40 : decode prog_6_method_5_code 40 = .ok (.lload_n 1, 1) := by decide +kernel
theorem d5_41 : decode prog_6_method_5_code 41 = .ok (.lload_n 1, 1) := by decide +kernel
theorem d5_42 : decode prog_6_method_5_code 42 = .ok (.bipush 31, 2) := by decide +kernel
theorem d5_44 : decode prog_6_method_5_code 44 = .ok (.lushr, 1) := by decide +kernel
theorem d5_45 : decode prog_6_method_5_code 45 = .ok (.lxor, 1) := by decide +kernel
theorem d5_46 : decode prog_6_method_5_code 46 = .ok (.lreturn, 1) := by decide +kernel
theorem ef_rm5 (m : MethodId) (x0 : Addr) : entryFrame m #[(.ref x0)] 3 = mkF m 0 #[.val (.ref x0), .unset, .unset] [] := by first | (simp [entryFrame, mkF, argsToLocals, Value.category]; done) | rfl
def Q5 (Z : State) (a0 : Addr) (q : Int64) (h0 : Heap) (n0 : Nat) (v : Option Value) (h : Heap) (L : List Loc) : Prop := v = some (.long (own_m3 (own_m2 (own_m1 (q + (-7046029254386353131 : Int64)))))) ∧ Fr n0 L ∧ Keep h0 h [a0] ∧ Exa Z h a0 "com/example/unanimity/unanimity/cli/Draws" ∧ Fld Z h a0 "com/example/unanimity/unanimity/cli/Draws" "state" "J" (.long (q + (-7046029254386353131 : Int64)))
set_option maxRecDepth 65536 in
set_option maxHeartbeats 40000000 in
theorem rm5 (l : Launch) (Z : State) (aw : Array Value) (hw : ∀ d ∈ tables_1, d.before aw Z = true) (ws : List Jvm.Cond) (a0 : Addr) (q : Int64) (h0 : Heap) (n0 : Nat) (Z0 : n0 ≤ h0.size) (E0 : Exa Z h0 a0 "com/example/unanimity/unanimity/cli/Draws") (F0 : Fld Z h0 a0 "com/example/unanimity/unanimity/cli/Draws" "state" "J" (.long q)) (g0 : n0 ≤ a0) :
    MetFree l (⟨"com/example/unanimity/unanimity/cli/Draws", "nextLong", "()J"⟩ : MethodName) (head1 (Jvm.Cond.code (⟨"com/example/unanimity/unanimity/cli/Draws", "nextLong", "()J"⟩ : MethodName) prog_6_method_5_code 3 (some .long) :: ws) ({ frames := 0, cells := 0, slots := 0, locals := 0 } : Room)) (fun a U => a = #[(.ref a0)] ∧ Z.Warmed39 U.vm ∧ U.heap = h0) (fun _ _ _ _ _ => True) (fun _ U o U' => ∃ v L, o = .returned v ∧ Q5 Z a0 q h0 n0 v U'.heap L ∧ FrameEnd U o U' L ({ frames := 0, cells := 0, slots := 0, locals := 0 } : Room).cells ({ frames := 0, cells := 0, slots := 0, locals := 0 } : Room).slots) := by
  refine MetFree.of_bodySF (plainFor_of_name pn_2) hisR ?_
  intro p e s m args below meth c s₁ Bd hml0 hP hK
  obtain ⟨rfl, hZ, hh⟩ := hP
  have hx := Bd.exec
  have hby := Bd.bytes
  have hml : c.maxLocals = 3 := hml0
  have hown : s.vm.findClass "com/example/unanimity/unanimity/cli/Draws" = some m.cls := findClass_of_methodNamed Bd.named
  have hnm := (name_of_methodNamed Bd.named Bd.method).1
  have X0 : Stand p l e ({ frames := 0, cells := 0, slots := 0, locals := 0 } : Room) s m #[(.ref a0)] below meth c s₁ [] 0 0 := Stand.of_body Bd
  have e0 : s₁.heap = h0 := by rw [← hh, Bd.state]; rfl
  have N0 := Fr.nil n0
  have pre0 : ∀ t, Steps p.tables e below (s₁.setTop (mkF m 0 #[.val (.ref a0), .unset, .unset] [])) t → Steps p.tables e below (s₁.setTop (entryFrame m #[(.ref a0)] 3)) t := fun t k => castTop (ef_rm5 m a0) k
  obtain ⟨T1, X1, e1, st1⟩ := getF X0 hx hZ hown (host := "") (Or.inl (hw _ (List.mem_of_getElem? (i := 27) rfl))) Via.refl e0 F0 (g := (mkF m 2 #[.val (.ref a0), .unset, .unset] [(.ref a0), (.ref a0)])) rfl rfl (hb hby d5_2)
  obtain ⟨T2, h2, X2, e2, W2, st2⟩ := putF X1 hx hZ hown (host := "") (Or.inl (hw _ (List.mem_of_getElem? (i := 27) rfl))) Via.refl e1 F0 E0 (Or.inl (hw _ (List.mem_of_getElem? (i := 28) rfl))) (hw _ (List.mem_of_getElem? (i := 19) rfl)) (ty := .long) (by decide) rfl rfl (g := (mkF m 9 #[.val (.ref a0), .unset, .unset] [(.long (q + (-7046029254386353131 : Int64))), (.ref a0)])) rfl rfl (hb hby d5_9)
  have f3 := E0.wr W2
  have f4 := F0.same W2
  have K2 : Keep h0 h2 [a0] := (Keep.refl h0 [a0]).wr W2 (Or.inl (List.mem_of_getElem? (i := 0) rfl))
  have N2 := Fr.snoc X2 N0 g0
  have Z2 : n0 ≤ h2.size := Nat.le_trans Z0 (Keep.of_wr W2).1
  obtain ⟨T5, X5, e5, st5⟩ := getF X2 hx hZ hown (host := "") (Or.inl (hw _ (List.mem_of_getElem? (i := 27) rfl))) Via.refl e2 f4 (g := (mkF m 13 #[.val (.ref a0), .unset, .unset] [(.ref a0)])) rfl rfl (hb hby d5_13)
  obtain ⟨T6, X6, e6, st6⟩ := getF X5 hx hZ hown (host := "") (Or.inl (hw _ (List.mem_of_getElem? (i := 27) rfl))) Via.refl e5 f4 (g := (mkF m 17 #[.val (.ref a0), .unset, .unset] [(.ref a0), (.long (q + (-7046029254386353131 : Int64)))])) rfl rfl (hb hby d5_17)
  obtain ⟨fs, hr, hrun, hended, hW, hsame⟩ := X6.leave (v := some (.long (own_m3 (own_m2 (own_m1 (q + (-7046029254386353131 : Int64))))))) (fun h => by rw [Bd.returns] at h; cases h)
  refine ⟨_, _, pre0 _ ?_, hrun, hended, _, _, rfl, ?_, ⟨_, rfl⟩, hW, hsame.mono (by decide) (by decide)⟩
  · show Steps p.tables e below (s₁.setTop (mkF m 0 #[.val (.ref a0), .unset, .unset] [])) _
    refine XS.aloadN X0.here hx rfl (hb hby d5_0) rfl rfl ?_
    show Steps p.tables e below (s₁.setTop (mkF m 1 #[.val (.ref a0), .unset, .unset] [(.ref a0)])) _
    refine XS.dup X0.here hx rfl (hb hby d5_1) rfl rfl ?_
    show Steps p.tables e below (s₁.setTop (mkF m 2 #[.val (.ref a0), .unset, .unset] [(.ref a0), (.ref a0)])) _
    refine st1 _ ?_
    show Steps p.tables e below (T1.setTop (mkF m 5 #[.val (.ref a0), .unset, .unset] [(.long q), (.ref a0)])) _
    refine X1.ldc2Long hx hown (mvT hZ (hw _ (List.mem_of_getElem? (i := 34) rfl))) (g := (mkF m 5 #[.val (.ref a0), .unset, .unset] [(.long q), (.ref a0)])) rfl (hb hby d5_5) _ ?_
    show Steps p.tables e below (T1.setTop (mkF m 8 #[.val (.ref a0), .unset, .unset] [(.long (-7046029254386353131 : Int64)), (.long q), (.ref a0)])) _
    refine XS.ladd X1.here hx rfl (hb hby d5_8) rfl ?_
    show Steps p.tables e below (T1.setTop (mkF m 9 #[.val (.ref a0), .unset, .unset] [(.long (q + (-7046029254386353131 : Int64))), (.ref a0)])) _
    refine st2 _ ?_
    show Steps p.tables e below (T2.setTop (mkF m 12 #[.val (.ref a0), .unset, .unset] [])) _
    refine XS.aloadN X2.here hx rfl (hb hby d5_12) rfl rfl ?_
    show Steps p.tables e below (T2.setTop (mkF m 13 #[.val (.ref a0), .unset, .unset] [(.ref a0)])) _
    refine st5 _ ?_
    show Steps p.tables e below (T5.setTop (mkF m 16 #[.val (.ref a0), .unset, .unset] [(.long (q + (-7046029254386353131 : Int64)))])) _
    refine XS.aloadN X5.here hx rfl (hb hby d5_16) rfl rfl ?_
    show Steps p.tables e below (T5.setTop (mkF m 17 #[.val (.ref a0), .unset, .unset] [(.ref a0), (.long (q + (-7046029254386353131 : Int64)))])) _
    refine st6 _ ?_
    show Steps p.tables e below (T6.setTop (mkF m 20 #[.val (.ref a0), .unset, .unset] [(.long (q + (-7046029254386353131 : Int64))), (.long (q + (-7046029254386353131 : Int64)))])) _
    refine XS.bipush X6.here hx rfl (hb hby d5_20) ?_
    show Steps p.tables e below (T6.setTop (mkF m 22 #[.val (.ref a0), .unset, .unset] [(.int (30 : Int32)), (.long (q + (-7046029254386353131 : Int64))), (.long (q + (-7046029254386353131 : Int64)))])) _
    refine XS.lushr X6.here hx rfl (hb hby d5_22) rfl ?_
    show Steps p.tables e below (T6.setTop (mkF m 23 #[.val (.ref a0), .unset, .unset] [(.long (((q + (-7046029254386353131 : Int64)).toUInt64 >>> ((30 : Int32) &&& 0x3f).toInt64.toUInt64).toInt64)), (.long (q + (-7046029254386353131 : Int64)))])) _
    refine XS.lxor X6.here hx rfl (hb hby d5_23) rfl ?_
    show Steps p.tables e below (T6.setTop (mkF m 24 #[.val (.ref a0), .unset, .unset] [(.long ((q + (-7046029254386353131 : Int64)) ^^^ (((q + (-7046029254386353131 : Int64)).toUInt64 >>> ((30 : Int32) &&& 0x3f).toInt64.toUInt64).toInt64)))])) _
    refine X6.ldc2Long hx hown (mvT hZ (hw _ (List.mem_of_getElem? (i := 35) rfl))) (g := (mkF m 24 #[.val (.ref a0), .unset, .unset] [(.long ((q + (-7046029254386353131 : Int64)) ^^^ (((q + (-7046029254386353131 : Int64)).toUInt64 >>> ((30 : Int32) &&& 0x3f).toInt64.toUInt64).toInt64)))])) rfl (hb hby d5_24) _ ?_
    show Steps p.tables e below (T6.setTop (mkF m 27 #[.val (.ref a0), .unset, .unset] [(.long (-4658895280553007687 : Int64)), (.long ((q + (-7046029254386353131 : Int64)) ^^^ (((q + (-7046029254386353131 : Int64)).toUInt64 >>> ((30 : Int32) &&& 0x3f).toInt64.toUInt64).toInt64)))])) _
    refine XS.lmul X6.here hx rfl (hb hby d5_27) rfl ?_
    show Steps p.tables e below (T6.setTop (mkF m 28 #[.val (.ref a0), .unset, .unset] [(.long (own_m1 (q + (-7046029254386353131 : Int64))))])) _
    refine XS.lstoreN X6.here hx rfl (hb hby d5_28) rfl (l' := #[.val (.ref a0), .val (.long (own_m1 (q + (-7046029254386353131 : Int64)))), .second]) rfl ?_
    show Steps p.tables e below (T6.setTop (mkF m 29 #[.val (.ref a0), .val (.long (own_m1 (q + (-7046029254386353131 : Int64)))), .second] [])) _
    refine XS.lloadN X6.here hx rfl (hb hby d5_29) rfl ?_
    show Steps p.tables e below (T6.setTop (mkF m 30 #[.val (.ref a0), .val (.long (own_m1 (q + (-7046029254386353131 : Int64)))), .second] [(.long (own_m1 (q + (-7046029254386353131 : Int64))))])) _
    refine XS.lloadN X6.here hx rfl (hb hby d5_30) rfl ?_
    show Steps p.tables e below (T6.setTop (mkF m 31 #[.val (.ref a0), .val (.long (own_m1 (q + (-7046029254386353131 : Int64)))), .second] [(.long (own_m1 (q + (-7046029254386353131 : Int64)))), (.long (own_m1 (q + (-7046029254386353131 : Int64))))])) _
    refine XS.bipush X6.here hx rfl (hb hby d5_31) ?_
    show Steps p.tables e below (T6.setTop (mkF m 33 #[.val (.ref a0), .val (.long (own_m1 (q + (-7046029254386353131 : Int64)))), .second] [(.int (27 : Int32)), (.long (own_m1 (q + (-7046029254386353131 : Int64)))), (.long (own_m1 (q + (-7046029254386353131 : Int64))))])) _
    refine XS.lushr X6.here hx rfl (hb hby d5_33) rfl ?_
    show Steps p.tables e below (T6.setTop (mkF m 34 #[.val (.ref a0), .val (.long (own_m1 (q + (-7046029254386353131 : Int64)))), .second] [(.long (((own_m1 (q + (-7046029254386353131 : Int64))).toUInt64 >>> ((27 : Int32) &&& 0x3f).toInt64.toUInt64).toInt64)), (.long (own_m1 (q + (-7046029254386353131 : Int64))))])) _
    refine XS.lxor X6.here hx rfl (hb hby d5_34) rfl ?_
    show Steps p.tables e below (T6.setTop (mkF m 35 #[.val (.ref a0), .val (.long (own_m1 (q + (-7046029254386353131 : Int64)))), .second] [(.long ((own_m1 (q + (-7046029254386353131 : Int64))) ^^^ (((own_m1 (q + (-7046029254386353131 : Int64))).toUInt64 >>> ((27 : Int32) &&& 0x3f).toInt64.toUInt64).toInt64)))])) _
    refine X6.ldc2Long hx hown (mvT hZ (hw _ (List.mem_of_getElem? (i := 36) rfl))) (g := (mkF m 35 #[.val (.ref a0), .val (.long (own_m1 (q + (-7046029254386353131 : Int64)))), .second] [(.long ((own_m1 (q + (-7046029254386353131 : Int64))) ^^^ (((own_m1 (q + (-7046029254386353131 : Int64))).toUInt64 >>> ((27 : Int32) &&& 0x3f).toInt64.toUInt64).toInt64)))])) rfl (hb hby d5_35) _ ?_
    show Steps p.tables e below (T6.setTop (mkF m 38 #[.val (.ref a0), .val (.long (own_m1 (q + (-7046029254386353131 : Int64)))), .second] [(.long (-7723592293110705685 : Int64)), (.long ((own_m1 (q + (-7046029254386353131 : Int64))) ^^^ (((own_m1 (q + (-7046029254386353131 : Int64))).toUInt64 >>> ((27 : Int32) &&& 0x3f).toInt64.toUInt64).toInt64)))])) _
    refine XS.lmul X6.here hx rfl (hb hby d5_38) rfl ?_
    show Steps p.tables e below (T6.setTop (mkF m 39 #[.val (.ref a0), .val (.long (own_m1 (q + (-7046029254386353131 : Int64)))), .second] [(.long (own_m2 (own_m1 (q + (-7046029254386353131 : Int64)))))])) _
    refine XS.lstoreN X6.here hx rfl (hb hby d5_39) rfl (l' := #[.val (.ref a0), .val (.long (own_m2 (own_m1 (q + (-7046029254386353131 : Int64))))), .second]) rfl ?_
    show Steps p.tables e below (T6.setTop (mkF m 40 #[.val (.ref a0), .val (.long (own_m2 (own_m1 (q + (-7046029254386353131 : Int64))))), .second] [])) _
    refine XS.lloadN X6.here hx rfl (hb hby d5_40) rfl ?_
    show Steps p.tables e below (T6.setTop (mkF m 41 #[.val (.ref a0), .val (.long (own_m2 (own_m1 (q + (-7046029254386353131 : Int64))))), .second] [(.long (own_m2 (own_m1 (q + (-7046029254386353131 : Int64)))))])) _
    refine XS.lloadN X6.here hx rfl (hb hby d5_41) rfl ?_
    show Steps p.tables e below (T6.setTop (mkF m 42 #[.val (.ref a0), .val (.long (own_m2 (own_m1 (q + (-7046029254386353131 : Int64))))), .second] [(.long (own_m2 (own_m1 (q + (-7046029254386353131 : Int64))))), (.long (own_m2 (own_m1 (q + (-7046029254386353131 : Int64)))))])) _
    refine XS.bipush X6.here hx rfl (hb hby d5_42) ?_
    show Steps p.tables e below (T6.setTop (mkF m 44 #[.val (.ref a0), .val (.long (own_m2 (own_m1 (q + (-7046029254386353131 : Int64))))), .second] [(.int (31 : Int32)), (.long (own_m2 (own_m1 (q + (-7046029254386353131 : Int64))))), (.long (own_m2 (own_m1 (q + (-7046029254386353131 : Int64)))))])) _
    refine XS.lushr X6.here hx rfl (hb hby d5_44) rfl ?_
    show Steps p.tables e below (T6.setTop (mkF m 45 #[.val (.ref a0), .val (.long (own_m2 (own_m1 (q + (-7046029254386353131 : Int64))))), .second] [(.long (((own_m2 (own_m1 (q + (-7046029254386353131 : Int64)))).toUInt64 >>> ((31 : Int32) &&& 0x3f).toInt64.toUInt64).toInt64)), (.long (own_m2 (own_m1 (q + (-7046029254386353131 : Int64)))))])) _
    refine XS.lxor X6.here hx rfl (hb hby d5_45) rfl ?_
    show Steps p.tables e below (T6.setTop (mkF m 46 #[.val (.ref a0), .val (.long (own_m2 (own_m1 (q + (-7046029254386353131 : Int64))))), .second] [(.long (own_m3 (own_m2 (own_m1 (q + (-7046029254386353131 : Int64))))))])) _
    jvm_step X6.here [X6.here.top, hx, (hb hby d5_46), X6.method', Bd.returns, narrow]
    first | (intro acts; rw [hr _ acts rfl rfl rfl]) | rw [hr _ _ rfl rfl rfl]
    exact Steps.refl _
  · show Q5 Z a0 q h0 n0 _ T6.heap _
    rw [e6]
    exact ⟨rfl, N2, K2, f3, f4⟩
theorem d6_0 : decode method_2_code 0 = .ok (.lload_n 0, 1) := by decide +kernel
theorem d6_1 : decode method_2_code 1 = .ok (.lstore_n 2, 1) := by decide +kernel
theorem d6_2 : decode method_2_code 2 = .ok (.lload_n 2, 1) := by decide +kernel
theorem d6_3 : decode method_2_code 3 = .ok (.lload_n 2, 1) := by decide +kernel
theorem d6_4 : decode method_2_code 4 = .ok (.bipush 31, 2) := by decide +kernel
theorem d6_6 : decode method_2_code 6 = .ok (.lushr, 1) := by decide +kernel
theorem d6_7 : decode method_2_code 7 = .ok (.lxor, 1) := by decide +kernel
theorem d6_8 : decode method_2_code 8 = .ok (.lload_n 2, 1) := by decide +kernel
theorem d6_9 : decode method_2_code 9 = .ok (.bipush 62, 2) := by decide +kernel
theorem d6_11 : decode method_2_code 11 = .ok (.lushr, 1) := by decide +kernel
theorem d6_12 : decode method_2_code 12 = .ok (.lxor, 1) := by decide +kernel
theorem d6_13 : decode method_2_code 13 = .ok (.ldc2_w 9, 3) := by decide +kernel
theorem d6_16 : decode method_2_code 16 = .ok (.lmul, 1) := by decide +kernel
theorem d6_17 : decode method_2_code 17 = .ok (.lstore_n 2, 1) := by decide +kernel
theorem d6_18 : decode method_2_code 18 = .ok (.lload_n 2, 1) := by decide +kernel
theorem d6_19 : decode method_2_code 19 = .ok (.lload_n 2, 1) := by decide +kernel
theorem d6_20 : decode method_2_code 20 = .ok (.bipush 27, 2) := by decide +kernel
theorem d6_22 : decode method_2_code 22 = .ok (.lushr, 1) := by decide +kernel
theorem d6_23 : decode method_2_code 23 = .ok (.lxor, 1) := by decide +kernel
theorem d6_24 : decode method_2_code 24 = .ok (.lload_n 2, 1) := by decide +kernel
theorem d6_25 : decode method_2_code 25 = .ok (.bipush 54, 2) := by decide +kernel
theorem d6_27 : decode method_2_code 27 = .ok (.lushr, 1) := by decide +kernel
theorem d6_28 : decode method_2_code 28 = .ok (.lxor, 1) := by decide +kernel
theorem d6_29 : decode method_2_code 29 = .ok (.ldc2_w 11, 3) := by decide +kernel
theorem d6_32 : decode method_2_code 32 = .ok (.lmul, 1) := by decide +kernel
theorem d6_33 : decode method_2_code 33 = .ok (.lstore_n 2, 1) := by decide +kernel
theorem d6_34 : decode method_2_code 34 = .ok (.lload_n 2, 1) := by decide +kernel
theorem d6_35 : decode method_2_code 35 = .ok (.lload_n 2, 1) := by decide +kernel
theorem d6_36 : decode method_2_code 36 = .ok (.bipush 30, 2) := by decide +kernel
theorem d6_38 : decode method_2_code 38 = .ok (.lushr, 1) := by decide +kernel
theorem d6_39 : decode method_2_code 39 = .ok (.lxor, 1) := by decide +kernel
theorem d6_40 : decode method_2_code 40 = .ok (.lload_n 2, 1) := by decide +kernel
theorem d6_41 : decode method_2_code 41 = .ok (.bipush 60, 2) := by decide +kernel
theorem d6_43 : decode method_2_code 43 = .ok (.lushr, 1) := by decide +kernel
theorem d6_44 : decode method_2_code 44 = .ok (.lxor, 1) := by decide +kernel
theorem d6_45 : decode method_2_code 45 = .ok (.lreturn, 1) := by decide +kernel
theorem ef_rm6 (m : MethodId) (x0 : Int64) : entryFrame m #[(.long x0)] 4 = mkF m 0 #[.val (.long x0), .second, .unset, .unset] [] := by first | (simp [entryFrame, mkF, argsToLocals, Value.category]; done) | rfl
theorem pn_3 : plainName "com/example/unanimity/unanimity/cli/DrawsNextLongPinLaw" = true := by first | (simp [plainName, overriddenIn]; done) | decide +kernel
def Q6 (Z : State) (q0 : Int64) (h0 : Heap) (n0 : Nat) (v : Option Value) (h : Heap) (L : List Loc) : Prop := v = some (.long (own_u3 (own_u2 (own_u1 q0)))) ∧ Fr n0 L ∧ h = h0
set_option maxRecDepth 65536 in
set_option maxHeartbeats 40000000 in
theorem rm6 (l : Launch) (Z : State) (aw : Array Value) (hw : ∀ d ∈ tables_1, d.before aw Z = true) (ws : List Jvm.Cond) (q0 : Int64) (h0 : Heap) (n0 : Nat) (Z0 : n0 ≤ h0.size) :
    MetFree l (⟨"com/example/unanimity/unanimity/cli/DrawsNextLongPinLaw", "unmix", "(J)J"⟩ : MethodName) (head1 (Jvm.Cond.code (⟨"com/example/unanimity/unanimity/cli/DrawsNextLongPinLaw", "unmix", "(J)J"⟩ : MethodName) method_2_code 4 (some .long) :: ws) ({ frames := 0, cells := 0, slots := 0, locals := 0 } : Room)) (fun a U => a = #[(.long q0)] ∧ Z.Warmed39 U.vm ∧ U.heap = h0) (fun _ _ _ _ _ => True) (fun _ U o U' => ∃ v L, o = .returned v ∧ Q6 Z q0 h0 n0 v U'.heap L ∧ FrameEnd U o U' L ({ frames := 0, cells := 0, slots := 0, locals := 0 } : Room).cells ({ frames := 0, cells := 0, slots := 0, locals := 0 } : Room).slots) := by
  refine MetFree.of_bodySF (plainFor_of_name pn_3) hisR ?_
  intro p e s m args below meth c s₁ Bd hml0 hP hK
  obtain ⟨rfl, hZ, hh⟩ := hP
  have hx := Bd.exec
  have hby := Bd.bytes
  have hml : c.maxLocals = 4 := hml0
  have hown : s.vm.findClass "com/example/unanimity/unanimity/cli/DrawsNextLongPinLaw" = some m.cls := findClass_of_methodNamed Bd.named
  have hnm := (name_of_methodNamed Bd.named Bd.method).1
  have X0 : Stand p l e ({ frames := 0, cells := 0, slots := 0, locals := 0 } : Room) s m #[(.long q0)] below meth c s₁ [] 0 0 := Stand.of_body Bd
  have e0 : s₁.heap = h0 := by rw [← hh, Bd.state]; rfl
  have N0 := Fr.nil n0
  have pre0 : ∀ t, Steps p.tables e below (s₁.setTop (mkF m 0 #[.val (.long q0), .second, .unset, .unset] [])) t → Steps p.tables e below (s₁.setTop (entryFrame m #[(.long q0)] 4)) t := fun t k => castTop (ef_rm6 m q0) k
  obtain ⟨fs, hr, hrun, hended, hW, hsame⟩ := X0.leave (v := some (.long (own_u3 (own_u2 (own_u1 q0))))) (fun h => by rw [Bd.returns] at h; cases h)
  refine ⟨_, _, pre0 _ ?_, hrun, hended, _, _, rfl, ?_, ⟨_, rfl⟩, hW, hsame.mono (by decide) (by decide)⟩
  · show Steps p.tables e below (s₁.setTop (mkF m 0 #[.val (.long q0), .second, .unset, .unset] [])) _
    refine XS.lloadN X0.here hx rfl (hb hby d6_0) rfl ?_
    show Steps p.tables e below (s₁.setTop (mkF m 1 #[.val (.long q0), .second, .unset, .unset] [(.long q0)])) _
    refine XS.lstoreN X0.here hx rfl (hb hby d6_1) rfl (l' := #[.val (.long q0), .second, .val (.long q0), .second]) rfl ?_
    show Steps p.tables e below (s₁.setTop (mkF m 2 #[.val (.long q0), .second, .val (.long q0), .second] [])) _
    refine XS.lloadN X0.here hx rfl (hb hby d6_2) rfl ?_
    show Steps p.tables e below (s₁.setTop (mkF m 3 #[.val (.long q0), .second, .val (.long q0), .second] [(.long q0)])) _
    refine XS.lloadN X0.here hx rfl (hb hby d6_3) rfl ?_
    show Steps p.tables e below (s₁.setTop (mkF m 4 #[.val (.long q0), .second, .val (.long q0), .second] [(.long q0), (.long q0)])) _
    refine XS.bipush X0.here hx rfl (hb hby d6_4) ?_
    show Steps p.tables e below (s₁.setTop (mkF m 6 #[.val (.long q0), .second, .val (.long q0), .second] [(.int (31 : Int32)), (.long q0), (.long q0)])) _
    refine XS.lushr X0.here hx rfl (hb hby d6_6) rfl ?_
    show Steps p.tables e below (s₁.setTop (mkF m 7 #[.val (.long q0), .second, .val (.long q0), .second] [(.long ((q0.toUInt64 >>> ((31 : Int32) &&& 0x3f).toInt64.toUInt64).toInt64)), (.long q0)])) _
    refine XS.lxor X0.here hx rfl (hb hby d6_7) rfl ?_
    show Steps p.tables e below (s₁.setTop (mkF m 8 #[.val (.long q0), .second, .val (.long q0), .second] [(.long (q0 ^^^ ((q0.toUInt64 >>> ((31 : Int32) &&& 0x3f).toInt64.toUInt64).toInt64)))])) _
    refine XS.lloadN X0.here hx rfl (hb hby d6_8) rfl ?_
    show Steps p.tables e below (s₁.setTop (mkF m 9 #[.val (.long q0), .second, .val (.long q0), .second] [(.long q0), (.long (q0 ^^^ ((q0.toUInt64 >>> ((31 : Int32) &&& 0x3f).toInt64.toUInt64).toInt64)))])) _
    refine XS.bipush X0.here hx rfl (hb hby d6_9) ?_
    show Steps p.tables e below (s₁.setTop (mkF m 11 #[.val (.long q0), .second, .val (.long q0), .second] [(.int (62 : Int32)), (.long q0), (.long (q0 ^^^ ((q0.toUInt64 >>> ((31 : Int32) &&& 0x3f).toInt64.toUInt64).toInt64)))])) _
    refine XS.lushr X0.here hx rfl (hb hby d6_11) rfl ?_
    show Steps p.tables e below (s₁.setTop (mkF m 12 #[.val (.long q0), .second, .val (.long q0), .second] [(.long ((q0.toUInt64 >>> ((62 : Int32) &&& 0x3f).toInt64.toUInt64).toInt64)), (.long (q0 ^^^ ((q0.toUInt64 >>> ((31 : Int32) &&& 0x3f).toInt64.toUInt64).toInt64)))])) _
    refine XS.lxor X0.here hx rfl (hb hby d6_12) rfl ?_
    show Steps p.tables e below (s₁.setTop (mkF m 13 #[.val (.long q0), .second, .val (.long q0), .second] [(.long ((q0 ^^^ ((q0.toUInt64 >>> ((31 : Int32) &&& 0x3f).toInt64.toUInt64).toInt64)) ^^^ ((q0.toUInt64 >>> ((62 : Int32) &&& 0x3f).toInt64.toUInt64).toInt64)))])) _
    refine X0.ldc2Long hx hown (mvT hZ (hw _ (List.mem_of_getElem? (i := 41) rfl))) (g := (mkF m 13 #[.val (.long q0), .second, .val (.long q0), .second] [(.long ((q0 ^^^ ((q0.toUInt64 >>> ((31 : Int32) &&& 0x3f).toInt64.toUInt64).toInt64)) ^^^ ((q0.toUInt64 >>> ((62 : Int32) &&& 0x3f).toInt64.toUInt64).toInt64)))])) rfl (hb hby d6_13) _ ?_
    show Steps p.tables e below (s₁.setTop (mkF m 16 #[.val (.long q0), .second, .val (.long q0), .second] [(.long (3573116690164977347 : Int64)), (.long ((q0 ^^^ ((q0.toUInt64 >>> ((31 : Int32) &&& 0x3f).toInt64.toUInt64).toInt64)) ^^^ ((q0.toUInt64 >>> ((62 : Int32) &&& 0x3f).toInt64.toUInt64).toInt64)))])) _
    refine XS.lmul X0.here hx rfl (hb hby d6_16) rfl ?_
    show Steps p.tables e below (s₁.setTop (mkF m 17 #[.val (.long q0), .second, .val (.long q0), .second] [(.long (own_u1 q0))])) _
    refine XS.lstoreN X0.here hx rfl (hb hby d6_17) rfl (l' := #[.val (.long q0), .second, .val (.long (own_u1 q0)), .second]) rfl ?_
    show Steps p.tables e below (s₁.setTop (mkF m 18 #[.val (.long q0), .second, .val (.long (own_u1 q0)), .second] [])) _
    refine XS.lloadN X0.here hx rfl (hb hby d6_18) rfl ?_
    show Steps p.tables e below (s₁.setTop (mkF m 19 #[.val (.long q0), .second, .val (.long (own_u1 q0)), .second] [(.long (own_u1 q0))])) _
    refine XS.lloadN X0.here hx rfl (hb hby d6_19) rfl ?_
    show Steps p.tables e below (s₁.setTop (mkF m 20 #[.val (.long q0), .second, .val (.long (own_u1 q0)), .second] [(.long (own_u1 q0)), (.long (own_u1 q0))])) _
    refine XS.bipush X0.here hx rfl (hb hby d6_20) ?_
    show Steps p.tables e below (s₁.setTop (mkF m 22 #[.val (.long q0), .second, .val (.long (own_u1 q0)), .second] [(.int (27 : Int32)), (.long (own_u1 q0)), (.long (own_u1 q0))])) _
    refine XS.lushr X0.here hx rfl (hb hby d6_22) rfl ?_
    show Steps p.tables e below (s₁.setTop (mkF m 23 #[.val (.long q0), .second, .val (.long (own_u1 q0)), .second] [(.long (((own_u1 q0).toUInt64 >>> ((27 : Int32) &&& 0x3f).toInt64.toUInt64).toInt64)), (.long (own_u1 q0))])) _
    refine XS.lxor X0.here hx rfl (hb hby d6_23) rfl ?_
    show Steps p.tables e below (s₁.setTop (mkF m 24 #[.val (.long q0), .second, .val (.long (own_u1 q0)), .second] [(.long ((own_u1 q0) ^^^ (((own_u1 q0).toUInt64 >>> ((27 : Int32) &&& 0x3f).toInt64.toUInt64).toInt64)))])) _
    refine XS.lloadN X0.here hx rfl (hb hby d6_24) rfl ?_
    show Steps p.tables e below (s₁.setTop (mkF m 25 #[.val (.long q0), .second, .val (.long (own_u1 q0)), .second] [(.long (own_u1 q0)), (.long ((own_u1 q0) ^^^ (((own_u1 q0).toUInt64 >>> ((27 : Int32) &&& 0x3f).toInt64.toUInt64).toInt64)))])) _
    refine XS.bipush X0.here hx rfl (hb hby d6_25) ?_
    show Steps p.tables e below (s₁.setTop (mkF m 27 #[.val (.long q0), .second, .val (.long (own_u1 q0)), .second] [(.int (54 : Int32)), (.long (own_u1 q0)), (.long ((own_u1 q0) ^^^ (((own_u1 q0).toUInt64 >>> ((27 : Int32) &&& 0x3f).toInt64.toUInt64).toInt64)))])) _
    refine XS.lushr X0.here hx rfl (hb hby d6_27) rfl ?_
    show Steps p.tables e below (s₁.setTop (mkF m 28 #[.val (.long q0), .second, .val (.long (own_u1 q0)), .second] [(.long (((own_u1 q0).toUInt64 >>> ((54 : Int32) &&& 0x3f).toInt64.toUInt64).toInt64)), (.long ((own_u1 q0) ^^^ (((own_u1 q0).toUInt64 >>> ((27 : Int32) &&& 0x3f).toInt64.toUInt64).toInt64)))])) _
    refine XS.lxor X0.here hx rfl (hb hby d6_28) rfl ?_
    show Steps p.tables e below (s₁.setTop (mkF m 29 #[.val (.long q0), .second, .val (.long (own_u1 q0)), .second] [(.long (((own_u1 q0) ^^^ (((own_u1 q0).toUInt64 >>> ((27 : Int32) &&& 0x3f).toInt64.toUInt64).toInt64)) ^^^ (((own_u1 q0).toUInt64 >>> ((54 : Int32) &&& 0x3f).toInt64.toUInt64).toInt64)))])) _
    refine X0.ldc2Long hx hown (mvT hZ (hw _ (List.mem_of_getElem? (i := 42) rfl))) (g := (mkF m 29 #[.val (.long q0), .second, .val (.long (own_u1 q0)), .second] [(.long (((own_u1 q0) ^^^ (((own_u1 q0).toUInt64 >>> ((27 : Int32) &&& 0x3f).toInt64.toUInt64).toInt64)) ^^^ (((own_u1 q0).toUInt64 >>> ((54 : Int32) &&& 0x3f).toInt64.toUInt64).toInt64)))])) rfl (hb hby d6_29) _ ?_
    show Steps p.tables e below (s₁.setTop (mkF m 32 #[.val (.long q0), .second, .val (.long (own_u1 q0)), .second] [(.long (-7575587736534282103 : Int64)), (.long (((own_u1 q0) ^^^ (((own_u1 q0).toUInt64 >>> ((27 : Int32) &&& 0x3f).toInt64.toUInt64).toInt64)) ^^^ (((own_u1 q0).toUInt64 >>> ((54 : Int32) &&& 0x3f).toInt64.toUInt64).toInt64)))])) _
    refine XS.lmul X0.here hx rfl (hb hby d6_32) rfl ?_
    show Steps p.tables e below (s₁.setTop (mkF m 33 #[.val (.long q0), .second, .val (.long (own_u1 q0)), .second] [(.long (own_u2 (own_u1 q0)))])) _
    refine XS.lstoreN X0.here hx rfl (hb hby d6_33) rfl (l' := #[.val (.long q0), .second, .val (.long (own_u2 (own_u1 q0))), .second]) rfl ?_
    show Steps p.tables e below (s₁.setTop (mkF m 34 #[.val (.long q0), .second, .val (.long (own_u2 (own_u1 q0))), .second] [])) _
    refine XS.lloadN X0.here hx rfl (hb hby d6_34) rfl ?_
    show Steps p.tables e below (s₁.setTop (mkF m 35 #[.val (.long q0), .second, .val (.long (own_u2 (own_u1 q0))), .second] [(.long (own_u2 (own_u1 q0)))])) _
    refine XS.lloadN X0.here hx rfl (hb hby d6_35) rfl ?_
    show Steps p.tables e below (s₁.setTop (mkF m 36 #[.val (.long q0), .second, .val (.long (own_u2 (own_u1 q0))), .second] [(.long (own_u2 (own_u1 q0))), (.long (own_u2 (own_u1 q0)))])) _
    refine XS.bipush X0.here hx rfl (hb hby d6_36) ?_
    show Steps p.tables e below (s₁.setTop (mkF m 38 #[.val (.long q0), .second, .val (.long (own_u2 (own_u1 q0))), .second] [(.int (30 : Int32)), (.long (own_u2 (own_u1 q0))), (.long (own_u2 (own_u1 q0)))])) _
    refine XS.lushr X0.here hx rfl (hb hby d6_38) rfl ?_
    show Steps p.tables e below (s₁.setTop (mkF m 39 #[.val (.long q0), .second, .val (.long (own_u2 (own_u1 q0))), .second] [(.long (((own_u2 (own_u1 q0)).toUInt64 >>> ((30 : Int32) &&& 0x3f).toInt64.toUInt64).toInt64)), (.long (own_u2 (own_u1 q0)))])) _
    refine XS.lxor X0.here hx rfl (hb hby d6_39) rfl ?_
    show Steps p.tables e below (s₁.setTop (mkF m 40 #[.val (.long q0), .second, .val (.long (own_u2 (own_u1 q0))), .second] [(.long ((own_u2 (own_u1 q0)) ^^^ (((own_u2 (own_u1 q0)).toUInt64 >>> ((30 : Int32) &&& 0x3f).toInt64.toUInt64).toInt64)))])) _
    refine XS.lloadN X0.here hx rfl (hb hby d6_40) rfl ?_
    show Steps p.tables e below (s₁.setTop (mkF m 41 #[.val (.long q0), .second, .val (.long (own_u2 (own_u1 q0))), .second] [(.long (own_u2 (own_u1 q0))), (.long ((own_u2 (own_u1 q0)) ^^^ (((own_u2 (own_u1 q0)).toUInt64 >>> ((30 : Int32) &&& 0x3f).toInt64.toUInt64).toInt64)))])) _
    refine XS.bipush X0.here hx rfl (hb hby d6_41) ?_
    show Steps p.tables e below (s₁.setTop (mkF m 43 #[.val (.long q0), .second, .val (.long (own_u2 (own_u1 q0))), .second] [(.int (60 : Int32)), (.long (own_u2 (own_u1 q0))), (.long ((own_u2 (own_u1 q0)) ^^^ (((own_u2 (own_u1 q0)).toUInt64 >>> ((30 : Int32) &&& 0x3f).toInt64.toUInt64).toInt64)))])) _
    refine XS.lushr X0.here hx rfl (hb hby d6_43) rfl ?_
    show Steps p.tables e below (s₁.setTop (mkF m 44 #[.val (.long q0), .second, .val (.long (own_u2 (own_u1 q0))), .second] [(.long (((own_u2 (own_u1 q0)).toUInt64 >>> ((60 : Int32) &&& 0x3f).toInt64.toUInt64).toInt64)), (.long ((own_u2 (own_u1 q0)) ^^^ (((own_u2 (own_u1 q0)).toUInt64 >>> ((30 : Int32) &&& 0x3f).toInt64.toUInt64).toInt64)))])) _
    refine XS.lxor X0.here hx rfl (hb hby d6_44) rfl ?_
    show Steps p.tables e below (s₁.setTop (mkF m 45 #[.val (.long q0), .second, .val (.long (own_u2 (own_u1 q0))), .second] [(.long (own_u3 (own_u2 (own_u1 q0))))])) _
    jvm_step X0.here [X0.here.top, hx, (hb hby d6_45), X0.method', Bd.returns, narrow]
    first | (intro acts; rw [hr _ acts rfl rfl rfl]) | rw [hr _ _ rfl rfl rfl]
    exact Steps.refl _
  · show Q6 Z q0 h0 n0 _ s₁.heap _
    rw [e0]
    exact ⟨rfl, N0, rfl⟩
theorem own_and (z : Int64) : 0 ≤ (z &&& (65535 : Int64)).toInt ∧ (z &&& (65535 : Int64)).toInt < 65536 := by
  rw [c_maskL z 65535 16 (by decide) (by decide)]
  exact ⟨Int.emod_nonneg _ (by decide), Int.emod_lt_of_pos _ (by decide)⟩
theorem own_val (z : Int64) : ((1 : Int64) + (z &&& (65535 : Int64))).toInt = 1 + (z &&& (65535 : Int64)).toInt := by
  have h1 := own_and z
  have h2 := c_ladd 1 (z &&& (65535 : Int64))
  have h3 := rng64 ((1 : Int64) + (z &&& (65535 : Int64)))
  have h4 : (1 : Int64).toInt = 1 := by decide
  omega
theorem own_b1 (z : Int64) : ¬ ((1 : Int64) + (z &&& (65535 : Int64))) < (1 : Int64) := by
  rw [Int64.lt_iff_toInt_lt, own_val, show (1 : Int64).toInt = 1 by decide]
  have := own_and z
  omega
theorem own_b2 (z : Int64) : ¬ (92233720368547 : Int64) < ((1 : Int64) + (z &&& (65535 : Int64))) := by
  rw [Int64.lt_iff_toInt_lt, own_val, show (92233720368547 : Int64).toInt = 92233720368547 by decide]
  have := own_and z
  omega
theorem own_s2 (q : Int64) : ((q + (-7046029254386353131 : Int64)) + (-7046029254386353131 : Int64)) = (q + (4354685564936845354 : Int64)) := by rw [Int64.add_assoc]; rfl
theorem own_s3 (q : Int64) : (((q + (-7046029254386353131 : Int64)) + (-7046029254386353131 : Int64)) + (-7046029254386353131 : Int64)) = (q + (-2691343689449507777 : Int64)) := by rw [Int64.add_assoc, Int64.add_assoc]; rfl
theorem pd_1 : parseMethodDescriptor "(J)V" = some ⟨[.long], none⟩ := by decide +kernel
theorem pd_2 : parseMethodDescriptor "(Lcom/example/unanimity/unanimity/cli/Tpcb;J)V" = some ⟨[(.object "com/example/unanimity/unanimity/cli/Tpcb"), .long], none⟩ := by decide +kernel
theorem pd_3 : parseMethodDescriptor "()J" = some ⟨[], some .long⟩ := by decide +kernel
theorem pd_4 : parseMethodDescriptor "(J)J" = some ⟨[.long], some .long⟩ := by decide +kernel
theorem ef_rm0 (m : MethodId) (x0 : Int64) (x1 : Int64) : entryFrame m #[(.long x0), (.long x1)] maxLocals = mkF m 0 #[.val (.long x0), .second, .val (.long x1), .second, .unset, .unset, .unset, .unset, .unset, .unset, .unset, .unset] [] := by first | (simp [entryFrame, mkF, argsToLocals, Value.category, maxLocals]; done) | rfl
def Q0 (Z : State) (q0 : Int64) (q1 : Int64) (h0 : Heap) (n0 : Nat) (v : Option Value) (h : Heap) (L : List Loc) : Prop := v = some (.int 1) ∧ Fr n0 L
set_option maxRecDepth 65536 in
set_option maxHeartbeats 40000000 in
theorem rm0 (l : Launch) (Z : State) (aw : Array Value) (hw : ∀ d ∈ tables_1, d.before aw Z = true) (ws : List Jvm.Cond) (q0 : Int64) (q1 : Int64) (h0 : Heap) (n0 : Nat) (Z0 : n0 ≤ h0.size) :
    MetFree l x (head1 (Jvm.Cond.code x code maxLocals ret :: ws) room_1) (fun a U => a = #[(.long q0), (.long q1)] ∧ Z.Warmed39 U.vm ∧ U.heap = h0) (fun _ _ _ _ _ => True) (fun _ U o U' => ∃ v L, o = .returned v ∧ Q0 Z q0 q1 h0 n0 v U'.heap L ∧ FrameEnd U o U' L room_1.cells room_1.slots) := by
  refine MetFree.of_bodySF (plainFor_of_name pn_3) hisR ?_
  intro p e s m args below meth c s₁ Bd hml0 hP hK
  obtain ⟨rfl, hZ, hh⟩ := hP
  have hx := Bd.exec
  have hby := Bd.bytes
  have hml : c.maxLocals = 12 := hml0
  have hown : s.vm.findClass "com/example/unanimity/unanimity/cli/DrawsNextLongPinLaw" = some m.cls := findClass_of_methodNamed Bd.named
  have hnm := (name_of_methodNamed Bd.named Bd.method).1
  have X0 : Stand p l e room_1 s m #[(.long q0), (.long q1)] below meth c s₁ [] 0 0 := Stand.of_body Bd
  have e0 : s₁.heap = h0 := by rw [← hh, Bd.state]; rfl
  have N0 := Fr.nil n0
  have pre0 : ∀ t, Steps p.tables e below (s₁.setTop (mkF m 0 #[.val (.long q0), .second, .val (.long q1), .second, .unset, .unset, .unset, .unset, .unset, .unset, .unset, .unset] [])) t → Steps p.tables e below (s₁.setTop (entryFrame m #[(.long q0), (.long q1)] maxLocals)) t := fun t k => castTop (ef_rm0 m q0 q1) k
  obtain ⟨T1, h1, X1, e1, E1, A1, D1, -, st1⟩ := newO X0 hx hZ hown (hw _ (List.mem_of_getElem? (i := 0) rfl)) (hw _ (List.mem_of_getElem? (i := 1) rfl)) (hw _ (List.mem_of_getElem? (i := 2) rfl)) e0 (g := (mkF m 0 #[.val (.long q0), .second, .val (.long q1), .second, .unset, .unset, .unset, .unset, .unset, .unset, .unset, .unset] [])) rfl (hb hby at_0) (by decide) (by decide)
  obtain ⟨b1, g1⟩ : ∃ z, z = h0.size := ⟨_, rfl⟩
  rw [← g1] at A1 D1 st1
  have ge1 : n0 ≤ b1 := Nat.le_trans Z0 (Nat.le_of_eq g1.symm)
  have sz1 : h0.size ≤ b1 := Nat.le_of_eq g1.symm
  have Z1 : n0 ≤ h1.size := Nat.le_trans Z0 E1.1
  have K1 : Keep h0 h1 [] := (Keep.refl h0 []).ext E1
  have f2 : Fld Z h1 b1 "com/example/unanimity/unanimity/cli/Tpcb" "branches" "J" (.long (0 : Int64)) := D1 (Or.inr (hw _ (List.mem_of_getElem? (i := 17) rfl))) (ty := .long) (by decide)
  obtain ⟨_, _, ⟨T3, L3, k3, n3⟩, -, X3, ⟨Lc3, hQ3, l3, y3, z3⟩, st3⟩ := X1.specialBack hx (y := (⟨"com/example/unanimity/unanimity/cli/Tpcb", "<init>", "(J)V"⟩ : MethodName)) rfl hown (mvT hZ (hw _ (List.mem_of_getElem? (i := 4) rfl))) (mvT hZ (hw _ (List.mem_of_getElem? (i := 5) rfl))) (mvT hZ (hw _ (List.mem_of_getElem? (i := 6) rfl))) (by decide) (backOf (W := 1) (rm1 l Z aw hw [] b1 ((1 : Int64) + (q1 &&& (65535 : Int64))) h1 n0 Z1 A1 f2 ge1 (own_b1 q1) (own_b2 q1)) hZ (hw _ (List.mem_of_getElem? (i := 6) rfl)) (hw _ (List.mem_of_getElem? (i := 2) rfl)) (by decide) (by decide)) (g := (mkF m 11 #[.val (.long q0), .second, .val (.long q1), .second, .unset, .unset, .unset, .unset, .unset, .unset, .unset, .unset] [(.long ((1 : Int64) + (q1 &&& (65535 : Int64)))), (.ref b1), (.ref b1)])) rfl (by rw [hml]; rfl) (Steps.refl _) (a := b1) (argsL := [(.long ((1 : Int64) + (q1 &&& (65535 : Int64))))]) (rest := [(.ref b1)]) (lenOf pd_1 rfl) rfl (by show 2 * 0 + _ ≤ _; exact Nat.le_of_eq rfl) (hb hby at_11) (fun _ _ => ⟨rfl, e1, (by decide : 1 + 0 ≤ _), (by decide : 1 + 0 ≤ _)⟩)
  dsimp only [Pt.U, Pt.locs, Pt.cells, Pt.slots] at X3 l3 y3 z3 st3 hQ3
  subst l3 y3 z3
  obtain ⟨rfl, N3q, K3q, E3q, F3q0⟩ := hQ3
  have N3 := Fr.app N0 N3q
  have f4 := A1.keep K3q
  have Z3 : n0 ≤ T3.heap.size := Nat.le_trans Z1 K3q.1
  have K3 : Keep h0 T3.heap [] := K1.trans K3q (allS (Or.inr sz1) all0)
  obtain ⟨T5, h5, X5, e5, E5, A5, D5, -, st5⟩ := newO X3 hx hZ hown (hw _ (List.mem_of_getElem? (i := 18) rfl)) (hw _ (List.mem_of_getElem? (i := 19) rfl)) (hw _ (List.mem_of_getElem? (i := 20) rfl)) rfl (g := (mkF m 16 #[.val (.long q0), .second, .val (.long q1), .second, .val (.ref b1), .unset, .unset, .unset, .unset, .unset, .unset, .unset] [])) rfl (hb hby at_16) (by decide) (by decide)
  obtain ⟨b5, g5⟩ : ∃ z, z = T3.heap.size := ⟨_, rfl⟩
  rw [← g5] at A5 D5 st5
  have ne6 : b1 ≠ b5 := Nat.ne_of_lt (Nat.lt_of_lt_of_le E3q.lt (Nat.le_of_eq g5.symm))
  have ge5 : n0 ≤ b5 := Nat.le_trans Z3 (Nat.le_of_eq g5.symm)
  have sz5 : h0.size ≤ b5 := Nat.le_trans K3.1 (Nat.le_of_eq g5.symm)
  have f7 := E3q.ext E5
  have f8 := F3q0.ext E5
  have Z5 : n0 ≤ h5.size := Nat.le_trans Z3 E5.1
  have K5 : Keep h0 h5 [] := K3.ext E5
  have f9 : Fld Z h5 b5 "com/example/unanimity/unanimity/cli/Draws" "data" "Lcom/example/unanimity/unanimity/cli/Tpcb;" .null := D5 (Or.inr (hw _ (List.mem_of_getElem? (i := 26) rfl))) (ty := (.object "com/example/unanimity/unanimity/cli/Tpcb")) (by decide)
  have f10 : Fld Z h5 b5 "com/example/unanimity/unanimity/cli/Draws" "state" "J" (.long (0 : Int64)) := D5 (Or.inl (hw _ (List.mem_of_getElem? (i := 28) rfl))) (ty := .long) (by decide)
  obtain ⟨_, _, ⟨T11, L11, k11, n11⟩, -, X11, ⟨Lc11, hQ11, l11, y11, z11⟩, st11⟩ := X5.specialBack hx (y := (⟨"com/example/unanimity/unanimity/cli/Draws", "<init>", "(Lcom/example/unanimity/unanimity/cli/Tpcb;J)V"⟩ : MethodName)) rfl hown (mvT hZ (hw _ (List.mem_of_getElem? (i := 21) rfl))) (mvT hZ (hw _ (List.mem_of_getElem? (i := 22) rfl))) (mvT hZ (hw _ (List.mem_of_getElem? (i := 23) rfl))) (by decide) (backOf (W := 1) (rm4 l Z aw hw [] b5 b1 q0 h5 n0 Z5 A5 f9 f10 ge5) hZ (hw _ (List.mem_of_getElem? (i := 23) rfl)) (hw _ (List.mem_of_getElem? (i := 20) rfl)) (by decide) (by decide)) (g := (mkF m 23 #[.val (.long q0), .second, .val (.long q1), .second, .val (.ref b1), .unset, .unset, .unset, .unset, .unset, .unset, .unset] [(.long q0), (.ref b1), (.ref b5), (.ref b5)])) rfl (by rw [hml]; rfl) (Steps.refl _) (a := b5) (argsL := [(.ref b1), (.long q0)]) (rest := [(.ref b5)]) (lenOf pd_2 rfl) rfl (by show 2 * 0 + _ ≤ _; exact Nat.le_of_eq rfl) (hb hby at_23) (fun _ _ => ⟨rfl, e5, (by decide : 2 + 0 ≤ _), (by decide : 3 + 0 ≤ _)⟩)
  dsimp only [Pt.U, Pt.locs, Pt.cells, Pt.slots] at X11 l11 y11 z11 st11 hQ11
  subst l11 y11 z11
  obtain ⟨rfl, N11q, K11q, E11q, F11q0, F11q1⟩ := hQ11
  have N11 := Fr.app N3 N11q
  have f12 := f7.keep K11q
  have f13 := f8.keep K11q (ninS ne6 nin0)
  have f14 := A5.keep K11q
  have Z11 : n0 ≤ T11.heap.size := Nat.le_trans Z5 K11q.1
  have K11 : Keep h0 T11.heap [] := K5.trans K11q (allS (Or.inr sz5) all0)
  obtain ⟨cq15, kq15, q15a, q15b, q15c⟩ := isOf hZ rfl E11q
  obtain ⟨_, _, ⟨T15, L15, k15, n15⟩, -, X15, ⟨Lc15, hQ15, l15, y15, z15⟩, st15⟩ := X11.virtualBack hx (y := (⟨"com/example/unanimity/unanimity/cli/Draws", "nextLong", "()J"⟩ : MethodName)) (z := (⟨"com/example/unanimity/unanimity/cli/Draws", "nextLong", "()J"⟩ : MethodName)) hown (mvT hZ (hw _ (List.mem_of_getElem? (i := 29) rfl))) (mvT hZ (hw _ (List.mem_of_getElem? (i := 30) rfl))) (notFace_of_selects (args := #[]) (mvT hZ (hw _ (List.mem_of_getElem? (i := 32) rfl)))) (mvT hZ (hw _ (List.mem_of_getElem? (i := 32) rfl))) (mvT hZ (hw _ (List.mem_of_getElem? (i := 31) rfl))) (by decide) (backOf (W := 0) (rm5 l Z aw hw [] b5 q0 T11.heap n0 Z11 E11q F11q1 ge5) hZ (hw _ (List.mem_of_getElem? (i := 33) rfl)) (hw _ (List.mem_of_getElem? (i := 20) rfl)) (by decide) (by decide)) q15a q15c (g := (mkF m 30 #[.val (.long q0), .second, .val (.long q1), .second, .val (.ref b1), .val (.ref b5), .unset, .unset, .unset, .unset, .unset, .unset] [(.ref b5)])) rfl (by rw [hml]; rfl) (Steps.refl _) (argsL := []) (rest := []) (lenOf pd_3 rfl) rfl (by show 2 * 0 + _ ≤ _; exact Nat.le_of_eq rfl) (hb hby at_30) (fun _ _ => ⟨rfl, rfl, (by decide : 2 + 0 ≤ _), (by decide : 3 + 0 ≤ _)⟩)
  dsimp only [Pt.U, Pt.locs, Pt.cells, Pt.slots] at X15 l15 y15 z15 st15 hQ15
  subst l15 y15 z15
  obtain ⟨rfl, N15q, K15q, E15q, F15q0⟩ := hQ15
  have N15 := Fr.app N11 N15q
  have f16 := f12.keep K15q
  have f17 := f13.keep K15q (ninS ne6 nin0)
  have f18 := E11q.keep K15q
  have Z15 : n0 ≤ T15.heap.size := Nat.le_trans Z11 K15q.1
  have K15 : Keep h0 T15.heap [] := K11.trans K15q (allS (Or.inr sz5) all0)
  obtain ⟨cq19, kq19, q19a, q19b, q19c⟩ := isOf hZ rfl E15q
  obtain ⟨_, _, ⟨T19, L19, k19, n19⟩, -, X19, ⟨Lc19, hQ19, l19, y19, z19⟩, st19⟩ := X15.virtualBack hx (y := (⟨"com/example/unanimity/unanimity/cli/Draws", "nextLong", "()J"⟩ : MethodName)) (z := (⟨"com/example/unanimity/unanimity/cli/Draws", "nextLong", "()J"⟩ : MethodName)) hown (mvT hZ (hw _ (List.mem_of_getElem? (i := 29) rfl))) (mvT hZ (hw _ (List.mem_of_getElem? (i := 30) rfl))) (notFace_of_selects (args := #[]) (mvT hZ (hw _ (List.mem_of_getElem? (i := 32) rfl)))) (mvT hZ (hw _ (List.mem_of_getElem? (i := 32) rfl))) (mvT hZ (hw _ (List.mem_of_getElem? (i := 31) rfl))) (by decide) (backOf (W := 0) (rm5 l Z aw hw [] b5 (q0 + (-7046029254386353131 : Int64)) T15.heap n0 Z15 E15q F15q0 ge5) hZ (hw _ (List.mem_of_getElem? (i := 33) rfl)) (hw _ (List.mem_of_getElem? (i := 20) rfl)) (by decide) (by decide)) q19a q19c (g := (mkF m 37 #[.val (.long q0), .second, .val (.long q1), .second, .val (.ref b1), .val (.ref b5), .val (.long (own_m3 (own_m2 (own_m1 (q0 + (-7046029254386353131 : Int64)))))), .second, .unset, .unset, .unset, .unset] [(.ref b5)])) rfl (by rw [hml]; rfl) (Steps.refl _) (argsL := []) (rest := []) (lenOf pd_3 rfl) rfl (by show 2 * 0 + _ ≤ _; exact Nat.le_of_eq rfl) (hb hby at_37) (fun _ _ => ⟨rfl, rfl, (by decide : 2 + 0 ≤ _), (by decide : 3 + 0 ≤ _)⟩)
  dsimp only [Pt.U, Pt.locs, Pt.cells, Pt.slots] at X19 l19 y19 z19 st19 hQ19
  subst l19 y19 z19
  obtain ⟨rfl, N19q, K19q, E19q, F19q0⟩ := hQ19
  have N19 := Fr.app N15 N19q
  have f20 := f16.keep K19q
  have f21 := f17.keep K19q (ninS ne6 nin0)
  have f22 := E15q.keep K19q
  have Z19 : n0 ≤ T19.heap.size := Nat.le_trans Z15 K19q.1
  have K19 : Keep h0 T19.heap [] := K15.trans K19q (allS (Or.inr sz5) all0)
  obtain ⟨cq23, kq23, q23a, q23b, q23c⟩ := isOf hZ rfl E19q
  obtain ⟨_, _, ⟨T23, L23, k23, n23⟩, -, X23, ⟨Lc23, hQ23, l23, y23, z23⟩, st23⟩ := X19.virtualBack hx (y := (⟨"com/example/unanimity/unanimity/cli/Draws", "nextLong", "()J"⟩ : MethodName)) (z := (⟨"com/example/unanimity/unanimity/cli/Draws", "nextLong", "()J"⟩ : MethodName)) hown (mvT hZ (hw _ (List.mem_of_getElem? (i := 29) rfl))) (mvT hZ (hw _ (List.mem_of_getElem? (i := 30) rfl))) (notFace_of_selects (args := #[]) (mvT hZ (hw _ (List.mem_of_getElem? (i := 32) rfl)))) (mvT hZ (hw _ (List.mem_of_getElem? (i := 32) rfl))) (mvT hZ (hw _ (List.mem_of_getElem? (i := 31) rfl))) (by decide) (backOf (W := 0) (rm5 l Z aw hw [] b5 ((q0 + (-7046029254386353131 : Int64)) + (-7046029254386353131 : Int64)) T19.heap n0 Z19 E19q F19q0 ge5) hZ (hw _ (List.mem_of_getElem? (i := 33) rfl)) (hw _ (List.mem_of_getElem? (i := 20) rfl)) (by decide) (by decide)) q23a q23c (g := (mkF m 44 #[.val (.long q0), .second, .val (.long q1), .second, .val (.ref b1), .val (.ref b5), .val (.long (own_m3 (own_m2 (own_m1 (q0 + (-7046029254386353131 : Int64)))))), .second, .val (.long (own_m3 (own_m2 (own_m1 ((q0 + (-7046029254386353131 : Int64)) + (-7046029254386353131 : Int64)))))), .second, .unset, .unset] [(.ref b5)])) rfl (by rw [hml]; rfl) (Steps.refl _) (argsL := []) (rest := []) (lenOf pd_3 rfl) rfl (by show 2 * 0 + _ ≤ _; exact Nat.le_of_eq rfl) (hb hby at_44) (fun _ _ => ⟨rfl, rfl, (by decide : 2 + 0 ≤ _), (by decide : 3 + 0 ≤ _)⟩)
  dsimp only [Pt.U, Pt.locs, Pt.cells, Pt.slots] at X23 l23 y23 z23 st23 hQ23
  subst l23 y23 z23
  obtain ⟨rfl, N23q, K23q, E23q, F23q0⟩ := hQ23
  have N23 := Fr.app N19 N23q
  have f24 := f20.keep K23q
  have f25 := f21.keep K23q (ninS ne6 nin0)
  have f26 := E19q.keep K23q
  have Z23 : n0 ≤ T23.heap.size := Nat.le_trans Z19 K23q.1
  have K23 : Keep h0 T23.heap [] := K19.trans K23q (allS (Or.inr sz5) all0)
  obtain ⟨_, _, ⟨T27, L27, k27, n27⟩, -, X27, ⟨Lc27, hQ27, l27, y27, z27⟩, st27⟩ := Jvm.LawKit.callS X23 hx (y := (⟨"com/example/unanimity/unanimity/cli/DrawsNextLongPinLaw", "unmix", "(J)J"⟩ : MethodName)) hown (mvT hZ (hw _ (List.mem_of_getElem? (i := 37) rfl))) (mvT hZ (hw _ (List.mem_of_getElem? (i := 38) rfl))) (mvT hZ (hw _ (List.mem_of_getElem? (i := 39) rfl))) (mvT hZ (hw _ (List.mem_of_getElem? (i := 40) rfl))) (by decide) (backOf (W := 0) (rm6 l Z aw hw [] (own_m3 (own_m2 (own_m1 (q0 + (-7046029254386353131 : Int64))))) T23.heap n0 Z23 ) hZ (hw _ (List.mem_of_getElem? (i := 40) rfl)) (hw _ (List.mem_of_getElem? (i := 39) rfl)) (by decide) (by decide)) (g := (mkF m 51 #[.val (.long q0), .second, .val (.long q1), .second, .val (.ref b1), .val (.ref b5), .val (.long (own_m3 (own_m2 (own_m1 (q0 + (-7046029254386353131 : Int64)))))), .second, .val (.long (own_m3 (own_m2 (own_m1 ((q0 + (-7046029254386353131 : Int64)) + (-7046029254386353131 : Int64)))))), .second, .val (.long (own_m3 (own_m2 (own_m1 (((q0 + (-7046029254386353131 : Int64)) + (-7046029254386353131 : Int64)) + (-7046029254386353131 : Int64)))))), .second] [(.long (own_m3 (own_m2 (own_m1 (q0 + (-7046029254386353131 : Int64))))))])) rfl (by rw [hml]; rfl) (argsL := [(.long (own_m3 (own_m2 (own_m1 (q0 + (-7046029254386353131 : Int64))))))]) (rest := []) (lenOf pd_4 rfl) rfl (by show 2 * 0 + _ ≤ _; exact Nat.le_of_eq rfl) (hb hby at_51) (fun _ _ => ⟨rfl, rfl, (by decide : 2 + 0 ≤ _), (by decide : 3 + 0 ≤ _)⟩)
  dsimp only [Pt.U, Pt.locs, Pt.cells, Pt.slots] at X27 l27 y27 z27 st27 hQ27
  subst l27 y27 z27
  obtain ⟨hv27, N27q, e27⟩ := hQ27
  rw [own_un] at hv27
  subst hv27
  have N27 := Fr.app N23 N27q
  obtain ⟨_, _, ⟨T28, L28, k28, n28⟩, -, X28, ⟨Lc28, hQ28, l28, y28, z28⟩, st28⟩ := Jvm.LawKit.callS X27 hx (y := (⟨"com/example/unanimity/unanimity/cli/DrawsNextLongPinLaw", "unmix", "(J)J"⟩ : MethodName)) hown (mvT hZ (hw _ (List.mem_of_getElem? (i := 37) rfl))) (mvT hZ (hw _ (List.mem_of_getElem? (i := 38) rfl))) (mvT hZ (hw _ (List.mem_of_getElem? (i := 39) rfl))) (mvT hZ (hw _ (List.mem_of_getElem? (i := 40) rfl))) (by decide) (backOf (W := 0) (rm6 l Z aw hw [] (own_m3 (own_m2 (own_m1 ((q0 + (-7046029254386353131 : Int64)) + (-7046029254386353131 : Int64))))) T23.heap n0 Z23 ) hZ (hw _ (List.mem_of_getElem? (i := 40) rfl)) (hw _ (List.mem_of_getElem? (i := 39) rfl)) (by decide) (by decide)) (g := (mkF m 65 #[.val (.long q0), .second, .val (.long q1), .second, .val (.ref b1), .val (.ref b5), .val (.long (own_m3 (own_m2 (own_m1 (q0 + (-7046029254386353131 : Int64)))))), .second, .val (.long (own_m3 (own_m2 (own_m1 ((q0 + (-7046029254386353131 : Int64)) + (-7046029254386353131 : Int64)))))), .second, .val (.long (own_m3 (own_m2 (own_m1 (((q0 + (-7046029254386353131 : Int64)) + (-7046029254386353131 : Int64)) + (-7046029254386353131 : Int64)))))), .second] [(.long (own_m3 (own_m2 (own_m1 ((q0 + (-7046029254386353131 : Int64)) + (-7046029254386353131 : Int64))))))])) rfl (by rw [hml]; rfl) (argsL := [(.long (own_m3 (own_m2 (own_m1 ((q0 + (-7046029254386353131 : Int64)) + (-7046029254386353131 : Int64))))))]) (rest := []) (lenOf pd_4 rfl) rfl (by show 2 * 0 + _ ≤ _; exact Nat.le_of_eq rfl) (hb hby at_65) (fun _ _ => ⟨rfl, e27, (by decide : 2 + 0 ≤ _), (by decide : 3 + 0 ≤ _)⟩)
  dsimp only [Pt.U, Pt.locs, Pt.cells, Pt.slots] at X28 l28 y28 z28 st28 hQ28
  subst l28 y28 z28
  obtain ⟨hv28, N28q, e28⟩ := hQ28
  rw [own_un] at hv28
  subst hv28
  have N28 := Fr.app N27 N28q
  obtain ⟨_, _, ⟨T29, L29, k29, n29⟩, -, X29, ⟨Lc29, hQ29, l29, y29, z29⟩, st29⟩ := Jvm.LawKit.callS X28 hx (y := (⟨"com/example/unanimity/unanimity/cli/DrawsNextLongPinLaw", "unmix", "(J)J"⟩ : MethodName)) hown (mvT hZ (hw _ (List.mem_of_getElem? (i := 37) rfl))) (mvT hZ (hw _ (List.mem_of_getElem? (i := 38) rfl))) (mvT hZ (hw _ (List.mem_of_getElem? (i := 39) rfl))) (mvT hZ (hw _ (List.mem_of_getElem? (i := 40) rfl))) (by decide) (backOf (W := 0) (rm6 l Z aw hw [] (own_m3 (own_m2 (own_m1 (((q0 + (-7046029254386353131 : Int64)) + (-7046029254386353131 : Int64)) + (-7046029254386353131 : Int64))))) T23.heap n0 Z23 ) hZ (hw _ (List.mem_of_getElem? (i := 40) rfl)) (hw _ (List.mem_of_getElem? (i := 39) rfl)) (by decide) (by decide)) (g := (mkF m 79 #[.val (.long q0), .second, .val (.long q1), .second, .val (.ref b1), .val (.ref b5), .val (.long (own_m3 (own_m2 (own_m1 (q0 + (-7046029254386353131 : Int64)))))), .second, .val (.long (own_m3 (own_m2 (own_m1 ((q0 + (-7046029254386353131 : Int64)) + (-7046029254386353131 : Int64)))))), .second, .val (.long (own_m3 (own_m2 (own_m1 (((q0 + (-7046029254386353131 : Int64)) + (-7046029254386353131 : Int64)) + (-7046029254386353131 : Int64)))))), .second] [(.long (own_m3 (own_m2 (own_m1 (((q0 + (-7046029254386353131 : Int64)) + (-7046029254386353131 : Int64)) + (-7046029254386353131 : Int64))))))])) rfl (by rw [hml]; rfl) (argsL := [(.long (own_m3 (own_m2 (own_m1 (((q0 + (-7046029254386353131 : Int64)) + (-7046029254386353131 : Int64)) + (-7046029254386353131 : Int64))))))]) (rest := []) (lenOf pd_4 rfl) rfl (by show 2 * 0 + _ ≤ _; exact Nat.le_of_eq rfl) (hb hby at_79) (fun _ _ => ⟨rfl, e28, (by decide : 2 + 0 ≤ _), (by decide : 3 + 0 ≤ _)⟩)
  dsimp only [Pt.U, Pt.locs, Pt.cells, Pt.slots] at X29 l29 y29 z29 st29 hQ29
  subst l29 y29 z29
  obtain ⟨hv29, N29q, e29⟩ := hQ29
  rw [own_un] at hv29
  subst hv29
  have N29 := Fr.app N28 N29q
  obtain ⟨fs, hr, hrun, hended, hW, hsame⟩ := X29.leave (v := some (.int (1 : Int32))) (fun h => by rw [Bd.returns] at h; cases h)
  refine ⟨_, _, pre0 _ ?_, hrun, hended, _, _, rfl, ?_, ⟨_, rfl⟩, hW, hsame.mono (by decide) (by decide)⟩
  · show Steps p.tables e below (s₁.setTop (mkF m 0 #[.val (.long q0), .second, .val (.long q1), .second, .unset, .unset, .unset, .unset, .unset, .unset, .unset, .unset] [])) _
    refine st1 _ ?_
    show Steps p.tables e below (T1.setTop (mkF m 3 #[.val (.long q0), .second, .val (.long q1), .second, .unset, .unset, .unset, .unset, .unset, .unset, .unset, .unset] [(.ref b1)])) _
    refine XS.dup X1.here hx rfl (hb hby at_3) rfl rfl ?_
    show Steps p.tables e below (T1.setTop (mkF m 4 #[.val (.long q0), .second, .val (.long q1), .second, .unset, .unset, .unset, .unset, .unset, .unset, .unset, .unset] [(.ref b1), (.ref b1)])) _
    refine XS.lconst X1.here hx rfl (hb hby at_4) ?_
    show Steps p.tables e below (T1.setTop (mkF m 5 #[.val (.long q0), .second, .val (.long q1), .second, .unset, .unset, .unset, .unset, .unset, .unset, .unset, .unset] [(.long (1 : Int64)), (.ref b1), (.ref b1)])) _
    refine XS.lloadN X1.here hx rfl (hb hby at_5) rfl ?_
    show Steps p.tables e below (T1.setTop (mkF m 6 #[.val (.long q0), .second, .val (.long q1), .second, .unset, .unset, .unset, .unset, .unset, .unset, .unset, .unset] [(.long q1), (.long (1 : Int64)), (.ref b1), (.ref b1)])) _
    refine X1.ldc2Long hx hown (mvT hZ (hw _ (List.mem_of_getElem? (i := 3) rfl))) (g := (mkF m 6 #[.val (.long q0), .second, .val (.long q1), .second, .unset, .unset, .unset, .unset, .unset, .unset, .unset, .unset] [(.long q1), (.long (1 : Int64)), (.ref b1), (.ref b1)])) rfl (hb hby at_6) _ ?_
    show Steps p.tables e below (T1.setTop (mkF m 9 #[.val (.long q0), .second, .val (.long q1), .second, .unset, .unset, .unset, .unset, .unset, .unset, .unset, .unset] [(.long (65535 : Int64)), (.long q1), (.long (1 : Int64)), (.ref b1), (.ref b1)])) _
    refine XS.land X1.here hx rfl (hb hby at_9) rfl ?_
    show Steps p.tables e below (T1.setTop (mkF m 10 #[.val (.long q0), .second, .val (.long q1), .second, .unset, .unset, .unset, .unset, .unset, .unset, .unset, .unset] [(.long (q1 &&& (65535 : Int64))), (.long (1 : Int64)), (.ref b1), (.ref b1)])) _
    refine XS.ladd X1.here hx rfl (hb hby at_10) rfl ?_
    show Steps p.tables e below (T1.setTop (mkF m 11 #[.val (.long q0), .second, .val (.long q1), .second, .unset, .unset, .unset, .unset, .unset, .unset, .unset, .unset] [(.long ((1 : Int64) + (q1 &&& (65535 : Int64)))), (.ref b1), (.ref b1)])) _
    refine st3.trans ?_
    show Steps p.tables e below (T3.setTop (mkF m 14 #[.val (.long q0), .second, .val (.long q1), .second, .unset, .unset, .unset, .unset, .unset, .unset, .unset, .unset] [(.ref b1)])) _
    refine XS.astore X3.here hx rfl (hb hby at_14) rfl rfl (l' := #[.val (.long q0), .second, .val (.long q1), .second, .val (.ref b1), .unset, .unset, .unset, .unset, .unset, .unset, .unset]) rfl ?_
    show Steps p.tables e below (T3.setTop (mkF m 16 #[.val (.long q0), .second, .val (.long q1), .second, .val (.ref b1), .unset, .unset, .unset, .unset, .unset, .unset, .unset] [])) _
    refine st5 _ ?_
    show Steps p.tables e below (T5.setTop (mkF m 19 #[.val (.long q0), .second, .val (.long q1), .second, .val (.ref b1), .unset, .unset, .unset, .unset, .unset, .unset, .unset] [(.ref b5)])) _
    refine XS.dup X5.here hx rfl (hb hby at_19) rfl rfl ?_
    show Steps p.tables e below (T5.setTop (mkF m 20 #[.val (.long q0), .second, .val (.long q1), .second, .val (.ref b1), .unset, .unset, .unset, .unset, .unset, .unset, .unset] [(.ref b5), (.ref b5)])) _
    refine XS.aload X5.here hx rfl (hb hby at_20) rfl rfl ?_
    show Steps p.tables e below (T5.setTop (mkF m 22 #[.val (.long q0), .second, .val (.long q1), .second, .val (.ref b1), .unset, .unset, .unset, .unset, .unset, .unset, .unset] [(.ref b1), (.ref b5), (.ref b5)])) _
    refine XS.lloadN X5.here hx rfl (hb hby at_22) rfl ?_
    show Steps p.tables e below (T5.setTop (mkF m 23 #[.val (.long q0), .second, .val (.long q1), .second, .val (.ref b1), .unset, .unset, .unset, .unset, .unset, .unset, .unset] [(.long q0), (.ref b1), (.ref b5), (.ref b5)])) _
    refine st11.trans ?_
    show Steps p.tables e below (T11.setTop (mkF m 26 #[.val (.long q0), .second, .val (.long q1), .second, .val (.ref b1), .unset, .unset, .unset, .unset, .unset, .unset, .unset] [(.ref b5)])) _
    refine XS.astore X11.here hx rfl (hb hby at_26) rfl rfl (l' := #[.val (.long q0), .second, .val (.long q1), .second, .val (.ref b1), .val (.ref b5), .unset, .unset, .unset, .unset, .unset, .unset]) rfl ?_
    show Steps p.tables e below (T11.setTop (mkF m 28 #[.val (.long q0), .second, .val (.long q1), .second, .val (.ref b1), .val (.ref b5), .unset, .unset, .unset, .unset, .unset, .unset] [])) _
    refine XS.aload X11.here hx rfl (hb hby at_28) rfl rfl ?_
    show Steps p.tables e below (T11.setTop (mkF m 30 #[.val (.long q0), .second, .val (.long q1), .second, .val (.ref b1), .val (.ref b5), .unset, .unset, .unset, .unset, .unset, .unset] [(.ref b5)])) _
    refine st15.trans ?_
    show Steps p.tables e below (T15.setTop (mkF m 33 #[.val (.long q0), .second, .val (.long q1), .second, .val (.ref b1), .val (.ref b5), .unset, .unset, .unset, .unset, .unset, .unset] [(.long (own_m3 (own_m2 (own_m1 (q0 + (-7046029254386353131 : Int64))))))])) _
    refine XS.lstore X15.here hx rfl (hb hby at_33) rfl (l' := #[.val (.long q0), .second, .val (.long q1), .second, .val (.ref b1), .val (.ref b5), .val (.long (own_m3 (own_m2 (own_m1 (q0 + (-7046029254386353131 : Int64)))))), .second, .unset, .unset, .unset, .unset]) rfl ?_
    show Steps p.tables e below (T15.setTop (mkF m 35 #[.val (.long q0), .second, .val (.long q1), .second, .val (.ref b1), .val (.ref b5), .val (.long (own_m3 (own_m2 (own_m1 (q0 + (-7046029254386353131 : Int64)))))), .second, .unset, .unset, .unset, .unset] [])) _
    refine XS.aload X15.here hx rfl (hb hby at_35) rfl rfl ?_
    show Steps p.tables e below (T15.setTop (mkF m 37 #[.val (.long q0), .second, .val (.long q1), .second, .val (.ref b1), .val (.ref b5), .val (.long (own_m3 (own_m2 (own_m1 (q0 + (-7046029254386353131 : Int64)))))), .second, .unset, .unset, .unset, .unset] [(.ref b5)])) _
    refine st19.trans ?_
    show Steps p.tables e below (T19.setTop (mkF m 40 #[.val (.long q0), .second, .val (.long q1), .second, .val (.ref b1), .val (.ref b5), .val (.long (own_m3 (own_m2 (own_m1 (q0 + (-7046029254386353131 : Int64)))))), .second, .unset, .unset, .unset, .unset] [(.long (own_m3 (own_m2 (own_m1 ((q0 + (-7046029254386353131 : Int64)) + (-7046029254386353131 : Int64))))))])) _
    refine XS.lstore X19.here hx rfl (hb hby at_40) rfl (l' := #[.val (.long q0), .second, .val (.long q1), .second, .val (.ref b1), .val (.ref b5), .val (.long (own_m3 (own_m2 (own_m1 (q0 + (-7046029254386353131 : Int64)))))), .second, .val (.long (own_m3 (own_m2 (own_m1 ((q0 + (-7046029254386353131 : Int64)) + (-7046029254386353131 : Int64)))))), .second, .unset, .unset]) rfl ?_
    show Steps p.tables e below (T19.setTop (mkF m 42 #[.val (.long q0), .second, .val (.long q1), .second, .val (.ref b1), .val (.ref b5), .val (.long (own_m3 (own_m2 (own_m1 (q0 + (-7046029254386353131 : Int64)))))), .second, .val (.long (own_m3 (own_m2 (own_m1 ((q0 + (-7046029254386353131 : Int64)) + (-7046029254386353131 : Int64)))))), .second, .unset, .unset] [])) _
    refine XS.aload X19.here hx rfl (hb hby at_42) rfl rfl ?_
    show Steps p.tables e below (T19.setTop (mkF m 44 #[.val (.long q0), .second, .val (.long q1), .second, .val (.ref b1), .val (.ref b5), .val (.long (own_m3 (own_m2 (own_m1 (q0 + (-7046029254386353131 : Int64)))))), .second, .val (.long (own_m3 (own_m2 (own_m1 ((q0 + (-7046029254386353131 : Int64)) + (-7046029254386353131 : Int64)))))), .second, .unset, .unset] [(.ref b5)])) _
    refine st23.trans ?_
    show Steps p.tables e below (T23.setTop (mkF m 47 #[.val (.long q0), .second, .val (.long q1), .second, .val (.ref b1), .val (.ref b5), .val (.long (own_m3 (own_m2 (own_m1 (q0 + (-7046029254386353131 : Int64)))))), .second, .val (.long (own_m3 (own_m2 (own_m1 ((q0 + (-7046029254386353131 : Int64)) + (-7046029254386353131 : Int64)))))), .second, .unset, .unset] [(.long (own_m3 (own_m2 (own_m1 (((q0 + (-7046029254386353131 : Int64)) + (-7046029254386353131 : Int64)) + (-7046029254386353131 : Int64))))))])) _
    refine XS.lstore X23.here hx rfl (hb hby at_47) rfl (l' := #[.val (.long q0), .second, .val (.long q1), .second, .val (.ref b1), .val (.ref b5), .val (.long (own_m3 (own_m2 (own_m1 (q0 + (-7046029254386353131 : Int64)))))), .second, .val (.long (own_m3 (own_m2 (own_m1 ((q0 + (-7046029254386353131 : Int64)) + (-7046029254386353131 : Int64)))))), .second, .val (.long (own_m3 (own_m2 (own_m1 (((q0 + (-7046029254386353131 : Int64)) + (-7046029254386353131 : Int64)) + (-7046029254386353131 : Int64)))))), .second]) rfl ?_
    show Steps p.tables e below (T23.setTop (mkF m 49 #[.val (.long q0), .second, .val (.long q1), .second, .val (.ref b1), .val (.ref b5), .val (.long (own_m3 (own_m2 (own_m1 (q0 + (-7046029254386353131 : Int64)))))), .second, .val (.long (own_m3 (own_m2 (own_m1 ((q0 + (-7046029254386353131 : Int64)) + (-7046029254386353131 : Int64)))))), .second, .val (.long (own_m3 (own_m2 (own_m1 (((q0 + (-7046029254386353131 : Int64)) + (-7046029254386353131 : Int64)) + (-7046029254386353131 : Int64)))))), .second] [])) _
    refine XS.lload X23.here hx rfl (hb hby at_49) rfl ?_
    show Steps p.tables e below (T23.setTop (mkF m 51 #[.val (.long q0), .second, .val (.long q1), .second, .val (.ref b1), .val (.ref b5), .val (.long (own_m3 (own_m2 (own_m1 (q0 + (-7046029254386353131 : Int64)))))), .second, .val (.long (own_m3 (own_m2 (own_m1 ((q0 + (-7046029254386353131 : Int64)) + (-7046029254386353131 : Int64)))))), .second, .val (.long (own_m3 (own_m2 (own_m1 (((q0 + (-7046029254386353131 : Int64)) + (-7046029254386353131 : Int64)) + (-7046029254386353131 : Int64)))))), .second] [(.long (own_m3 (own_m2 (own_m1 (q0 + (-7046029254386353131 : Int64))))))])) _
    refine st27 _ ?_
    show Steps p.tables e below (T27.setTop (mkF m 54 #[.val (.long q0), .second, .val (.long q1), .second, .val (.ref b1), .val (.ref b5), .val (.long (own_m3 (own_m2 (own_m1 (q0 + (-7046029254386353131 : Int64)))))), .second, .val (.long (own_m3 (own_m2 (own_m1 ((q0 + (-7046029254386353131 : Int64)) + (-7046029254386353131 : Int64)))))), .second, .val (.long (own_m3 (own_m2 (own_m1 (((q0 + (-7046029254386353131 : Int64)) + (-7046029254386353131 : Int64)) + (-7046029254386353131 : Int64)))))), .second] [(.long (q0 + (-7046029254386353131 : Int64)))])) _
    refine XS.lloadN X27.here hx rfl (hb hby at_54) rfl ?_
    show Steps p.tables e below (T27.setTop (mkF m 55 #[.val (.long q0), .second, .val (.long q1), .second, .val (.ref b1), .val (.ref b5), .val (.long (own_m3 (own_m2 (own_m1 (q0 + (-7046029254386353131 : Int64)))))), .second, .val (.long (own_m3 (own_m2 (own_m1 ((q0 + (-7046029254386353131 : Int64)) + (-7046029254386353131 : Int64)))))), .second, .val (.long (own_m3 (own_m2 (own_m1 (((q0 + (-7046029254386353131 : Int64)) + (-7046029254386353131 : Int64)) + (-7046029254386353131 : Int64)))))), .second] [(.long q0), (.long (q0 + (-7046029254386353131 : Int64)))])) _
    refine X27.ldc2Long hx hown (mvT hZ (hw _ (List.mem_of_getElem? (i := 43) rfl))) (g := (mkF m 55 #[.val (.long q0), .second, .val (.long q1), .second, .val (.ref b1), .val (.ref b5), .val (.long (own_m3 (own_m2 (own_m1 (q0 + (-7046029254386353131 : Int64)))))), .second, .val (.long (own_m3 (own_m2 (own_m1 ((q0 + (-7046029254386353131 : Int64)) + (-7046029254386353131 : Int64)))))), .second, .val (.long (own_m3 (own_m2 (own_m1 (((q0 + (-7046029254386353131 : Int64)) + (-7046029254386353131 : Int64)) + (-7046029254386353131 : Int64)))))), .second] [(.long q0), (.long (q0 + (-7046029254386353131 : Int64)))])) rfl (hb hby at_55) _ ?_
    show Steps p.tables e below (T27.setTop (mkF m 58 #[.val (.long q0), .second, .val (.long q1), .second, .val (.ref b1), .val (.ref b5), .val (.long (own_m3 (own_m2 (own_m1 (q0 + (-7046029254386353131 : Int64)))))), .second, .val (.long (own_m3 (own_m2 (own_m1 ((q0 + (-7046029254386353131 : Int64)) + (-7046029254386353131 : Int64)))))), .second, .val (.long (own_m3 (own_m2 (own_m1 (((q0 + (-7046029254386353131 : Int64)) + (-7046029254386353131 : Int64)) + (-7046029254386353131 : Int64)))))), .second] [(.long (-7046029254386353131 : Int64)), (.long q0), (.long (q0 + (-7046029254386353131 : Int64)))])) _
    refine XS.ladd X27.here hx rfl (hb hby at_58) rfl ?_
    show Steps p.tables e below (T27.setTop (mkF m 59 #[.val (.long q0), .second, .val (.long q1), .second, .val (.ref b1), .val (.ref b5), .val (.long (own_m3 (own_m2 (own_m1 (q0 + (-7046029254386353131 : Int64)))))), .second, .val (.long (own_m3 (own_m2 (own_m1 ((q0 + (-7046029254386353131 : Int64)) + (-7046029254386353131 : Int64)))))), .second, .val (.long (own_m3 (own_m2 (own_m1 (((q0 + (-7046029254386353131 : Int64)) + (-7046029254386353131 : Int64)) + (-7046029254386353131 : Int64)))))), .second] [(.long (q0 + (-7046029254386353131 : Int64))), (.long (q0 + (-7046029254386353131 : Int64)))])) _
    refine XS.lcmp X27.here hx rfl (hb hby at_59) rfl ?_
    show Steps p.tables e below (T27.setTop (mkF m 60 #[.val (.long q0), .second, .val (.long q1), .second, .val (.ref b1), .val (.ref b5), .val (.long (own_m3 (own_m2 (own_m1 (q0 + (-7046029254386353131 : Int64)))))), .second, .val (.long (own_m3 (own_m2 (own_m1 ((q0 + (-7046029254386353131 : Int64)) + (-7046029254386353131 : Int64)))))), .second, .val (.long (own_m3 (own_m2 (own_m1 (((q0 + (-7046029254386353131 : Int64)) + (-7046029254386353131 : Int64)) + (-7046029254386353131 : Int64)))))), .second] [(.int (lcmpW (q0 + (-7046029254386353131 : Int64)) (q0 + (-7046029254386353131 : Int64))))])) _
    refine XS.ifNo X27.here hx rfl (hb hby at_60) rfl ((if0 _ _).trans (teq ((lw_eq (q0 + (-7046029254386353131 : Int64)) (q0 + (-7046029254386353131 : Int64))).mpr (rfl : (q0 + (-7046029254386353131 : Int64)) = (q0 + (-7046029254386353131 : Int64))))).2) ?_
    show Steps p.tables e below (T27.setTop (mkF m 63 #[.val (.long q0), .second, .val (.long q1), .second, .val (.ref b1), .val (.ref b5), .val (.long (own_m3 (own_m2 (own_m1 (q0 + (-7046029254386353131 : Int64)))))), .second, .val (.long (own_m3 (own_m2 (own_m1 ((q0 + (-7046029254386353131 : Int64)) + (-7046029254386353131 : Int64)))))), .second, .val (.long (own_m3 (own_m2 (own_m1 (((q0 + (-7046029254386353131 : Int64)) + (-7046029254386353131 : Int64)) + (-7046029254386353131 : Int64)))))), .second] [])) _
    refine XS.lload X27.here hx rfl (hb hby at_63) rfl ?_
    show Steps p.tables e below (T27.setTop (mkF m 65 #[.val (.long q0), .second, .val (.long q1), .second, .val (.ref b1), .val (.ref b5), .val (.long (own_m3 (own_m2 (own_m1 (q0 + (-7046029254386353131 : Int64)))))), .second, .val (.long (own_m3 (own_m2 (own_m1 ((q0 + (-7046029254386353131 : Int64)) + (-7046029254386353131 : Int64)))))), .second, .val (.long (own_m3 (own_m2 (own_m1 (((q0 + (-7046029254386353131 : Int64)) + (-7046029254386353131 : Int64)) + (-7046029254386353131 : Int64)))))), .second] [(.long (own_m3 (own_m2 (own_m1 ((q0 + (-7046029254386353131 : Int64)) + (-7046029254386353131 : Int64))))))])) _
    refine st28 _ ?_
    show Steps p.tables e below (T28.setTop (mkF m 68 #[.val (.long q0), .second, .val (.long q1), .second, .val (.ref b1), .val (.ref b5), .val (.long (own_m3 (own_m2 (own_m1 (q0 + (-7046029254386353131 : Int64)))))), .second, .val (.long (own_m3 (own_m2 (own_m1 ((q0 + (-7046029254386353131 : Int64)) + (-7046029254386353131 : Int64)))))), .second, .val (.long (own_m3 (own_m2 (own_m1 (((q0 + (-7046029254386353131 : Int64)) + (-7046029254386353131 : Int64)) + (-7046029254386353131 : Int64)))))), .second] [(.long ((q0 + (-7046029254386353131 : Int64)) + (-7046029254386353131 : Int64)))])) _
    refine XS.lloadN X28.here hx rfl (hb hby at_68) rfl ?_
    show Steps p.tables e below (T28.setTop (mkF m 69 #[.val (.long q0), .second, .val (.long q1), .second, .val (.ref b1), .val (.ref b5), .val (.long (own_m3 (own_m2 (own_m1 (q0 + (-7046029254386353131 : Int64)))))), .second, .val (.long (own_m3 (own_m2 (own_m1 ((q0 + (-7046029254386353131 : Int64)) + (-7046029254386353131 : Int64)))))), .second, .val (.long (own_m3 (own_m2 (own_m1 (((q0 + (-7046029254386353131 : Int64)) + (-7046029254386353131 : Int64)) + (-7046029254386353131 : Int64)))))), .second] [(.long q0), (.long ((q0 + (-7046029254386353131 : Int64)) + (-7046029254386353131 : Int64)))])) _
    refine X28.ldc2Long hx hown (mvT hZ (hw _ (List.mem_of_getElem? (i := 44) rfl))) (g := (mkF m 69 #[.val (.long q0), .second, .val (.long q1), .second, .val (.ref b1), .val (.ref b5), .val (.long (own_m3 (own_m2 (own_m1 (q0 + (-7046029254386353131 : Int64)))))), .second, .val (.long (own_m3 (own_m2 (own_m1 ((q0 + (-7046029254386353131 : Int64)) + (-7046029254386353131 : Int64)))))), .second, .val (.long (own_m3 (own_m2 (own_m1 (((q0 + (-7046029254386353131 : Int64)) + (-7046029254386353131 : Int64)) + (-7046029254386353131 : Int64)))))), .second] [(.long q0), (.long ((q0 + (-7046029254386353131 : Int64)) + (-7046029254386353131 : Int64)))])) rfl (hb hby at_69) _ ?_
    show Steps p.tables e below (T28.setTop (mkF m 72 #[.val (.long q0), .second, .val (.long q1), .second, .val (.ref b1), .val (.ref b5), .val (.long (own_m3 (own_m2 (own_m1 (q0 + (-7046029254386353131 : Int64)))))), .second, .val (.long (own_m3 (own_m2 (own_m1 ((q0 + (-7046029254386353131 : Int64)) + (-7046029254386353131 : Int64)))))), .second, .val (.long (own_m3 (own_m2 (own_m1 (((q0 + (-7046029254386353131 : Int64)) + (-7046029254386353131 : Int64)) + (-7046029254386353131 : Int64)))))), .second] [(.long (4354685564936845354 : Int64)), (.long q0), (.long ((q0 + (-7046029254386353131 : Int64)) + (-7046029254386353131 : Int64)))])) _
    refine XS.ladd X28.here hx rfl (hb hby at_72) rfl ?_
    show Steps p.tables e below (T28.setTop (mkF m 73 #[.val (.long q0), .second, .val (.long q1), .second, .val (.ref b1), .val (.ref b5), .val (.long (own_m3 (own_m2 (own_m1 (q0 + (-7046029254386353131 : Int64)))))), .second, .val (.long (own_m3 (own_m2 (own_m1 ((q0 + (-7046029254386353131 : Int64)) + (-7046029254386353131 : Int64)))))), .second, .val (.long (own_m3 (own_m2 (own_m1 (((q0 + (-7046029254386353131 : Int64)) + (-7046029254386353131 : Int64)) + (-7046029254386353131 : Int64)))))), .second] [(.long (q0 + (4354685564936845354 : Int64))), (.long ((q0 + (-7046029254386353131 : Int64)) + (-7046029254386353131 : Int64)))])) _
    refine XS.lcmp X28.here hx rfl (hb hby at_73) rfl ?_
    show Steps p.tables e below (T28.setTop (mkF m 74 #[.val (.long q0), .second, .val (.long q1), .second, .val (.ref b1), .val (.ref b5), .val (.long (own_m3 (own_m2 (own_m1 (q0 + (-7046029254386353131 : Int64)))))), .second, .val (.long (own_m3 (own_m2 (own_m1 ((q0 + (-7046029254386353131 : Int64)) + (-7046029254386353131 : Int64)))))), .second, .val (.long (own_m3 (own_m2 (own_m1 (((q0 + (-7046029254386353131 : Int64)) + (-7046029254386353131 : Int64)) + (-7046029254386353131 : Int64)))))), .second] [(.int (lcmpW ((q0 + (-7046029254386353131 : Int64)) + (-7046029254386353131 : Int64)) (q0 + (4354685564936845354 : Int64))))])) _
    refine XS.ifNo X28.here hx rfl (hb hby at_74) rfl ((if0 _ _).trans (teq ((lw_eq ((q0 + (-7046029254386353131 : Int64)) + (-7046029254386353131 : Int64)) (q0 + (4354685564936845354 : Int64))).mpr (own_s2 q0))).2) ?_
    show Steps p.tables e below (T28.setTop (mkF m 77 #[.val (.long q0), .second, .val (.long q1), .second, .val (.ref b1), .val (.ref b5), .val (.long (own_m3 (own_m2 (own_m1 (q0 + (-7046029254386353131 : Int64)))))), .second, .val (.long (own_m3 (own_m2 (own_m1 ((q0 + (-7046029254386353131 : Int64)) + (-7046029254386353131 : Int64)))))), .second, .val (.long (own_m3 (own_m2 (own_m1 (((q0 + (-7046029254386353131 : Int64)) + (-7046029254386353131 : Int64)) + (-7046029254386353131 : Int64)))))), .second] [])) _
    refine XS.lload X28.here hx rfl (hb hby at_77) rfl ?_
    show Steps p.tables e below (T28.setTop (mkF m 79 #[.val (.long q0), .second, .val (.long q1), .second, .val (.ref b1), .val (.ref b5), .val (.long (own_m3 (own_m2 (own_m1 (q0 + (-7046029254386353131 : Int64)))))), .second, .val (.long (own_m3 (own_m2 (own_m1 ((q0 + (-7046029254386353131 : Int64)) + (-7046029254386353131 : Int64)))))), .second, .val (.long (own_m3 (own_m2 (own_m1 (((q0 + (-7046029254386353131 : Int64)) + (-7046029254386353131 : Int64)) + (-7046029254386353131 : Int64)))))), .second] [(.long (own_m3 (own_m2 (own_m1 (((q0 + (-7046029254386353131 : Int64)) + (-7046029254386353131 : Int64)) + (-7046029254386353131 : Int64))))))])) _
    refine st29 _ ?_
    show Steps p.tables e below (T29.setTop (mkF m 82 #[.val (.long q0), .second, .val (.long q1), .second, .val (.ref b1), .val (.ref b5), .val (.long (own_m3 (own_m2 (own_m1 (q0 + (-7046029254386353131 : Int64)))))), .second, .val (.long (own_m3 (own_m2 (own_m1 ((q0 + (-7046029254386353131 : Int64)) + (-7046029254386353131 : Int64)))))), .second, .val (.long (own_m3 (own_m2 (own_m1 (((q0 + (-7046029254386353131 : Int64)) + (-7046029254386353131 : Int64)) + (-7046029254386353131 : Int64)))))), .second] [(.long (((q0 + (-7046029254386353131 : Int64)) + (-7046029254386353131 : Int64)) + (-7046029254386353131 : Int64)))])) _
    refine XS.lloadN X29.here hx rfl (hb hby at_82) rfl ?_
    show Steps p.tables e below (T29.setTop (mkF m 83 #[.val (.long q0), .second, .val (.long q1), .second, .val (.ref b1), .val (.ref b5), .val (.long (own_m3 (own_m2 (own_m1 (q0 + (-7046029254386353131 : Int64)))))), .second, .val (.long (own_m3 (own_m2 (own_m1 ((q0 + (-7046029254386353131 : Int64)) + (-7046029254386353131 : Int64)))))), .second, .val (.long (own_m3 (own_m2 (own_m1 (((q0 + (-7046029254386353131 : Int64)) + (-7046029254386353131 : Int64)) + (-7046029254386353131 : Int64)))))), .second] [(.long q0), (.long (((q0 + (-7046029254386353131 : Int64)) + (-7046029254386353131 : Int64)) + (-7046029254386353131 : Int64)))])) _
    refine X29.ldc2Long hx hown (mvT hZ (hw _ (List.mem_of_getElem? (i := 45) rfl))) (g := (mkF m 83 #[.val (.long q0), .second, .val (.long q1), .second, .val (.ref b1), .val (.ref b5), .val (.long (own_m3 (own_m2 (own_m1 (q0 + (-7046029254386353131 : Int64)))))), .second, .val (.long (own_m3 (own_m2 (own_m1 ((q0 + (-7046029254386353131 : Int64)) + (-7046029254386353131 : Int64)))))), .second, .val (.long (own_m3 (own_m2 (own_m1 (((q0 + (-7046029254386353131 : Int64)) + (-7046029254386353131 : Int64)) + (-7046029254386353131 : Int64)))))), .second] [(.long q0), (.long (((q0 + (-7046029254386353131 : Int64)) + (-7046029254386353131 : Int64)) + (-7046029254386353131 : Int64)))])) rfl (hb hby at_83) _ ?_
    show Steps p.tables e below (T29.setTop (mkF m 86 #[.val (.long q0), .second, .val (.long q1), .second, .val (.ref b1), .val (.ref b5), .val (.long (own_m3 (own_m2 (own_m1 (q0 + (-7046029254386353131 : Int64)))))), .second, .val (.long (own_m3 (own_m2 (own_m1 ((q0 + (-7046029254386353131 : Int64)) + (-7046029254386353131 : Int64)))))), .second, .val (.long (own_m3 (own_m2 (own_m1 (((q0 + (-7046029254386353131 : Int64)) + (-7046029254386353131 : Int64)) + (-7046029254386353131 : Int64)))))), .second] [(.long (-2691343689449507777 : Int64)), (.long q0), (.long (((q0 + (-7046029254386353131 : Int64)) + (-7046029254386353131 : Int64)) + (-7046029254386353131 : Int64)))])) _
    refine XS.ladd X29.here hx rfl (hb hby at_86) rfl ?_
    show Steps p.tables e below (T29.setTop (mkF m 87 #[.val (.long q0), .second, .val (.long q1), .second, .val (.ref b1), .val (.ref b5), .val (.long (own_m3 (own_m2 (own_m1 (q0 + (-7046029254386353131 : Int64)))))), .second, .val (.long (own_m3 (own_m2 (own_m1 ((q0 + (-7046029254386353131 : Int64)) + (-7046029254386353131 : Int64)))))), .second, .val (.long (own_m3 (own_m2 (own_m1 (((q0 + (-7046029254386353131 : Int64)) + (-7046029254386353131 : Int64)) + (-7046029254386353131 : Int64)))))), .second] [(.long (q0 + (-2691343689449507777 : Int64))), (.long (((q0 + (-7046029254386353131 : Int64)) + (-7046029254386353131 : Int64)) + (-7046029254386353131 : Int64)))])) _
    refine XS.lcmp X29.here hx rfl (hb hby at_87) rfl ?_
    show Steps p.tables e below (T29.setTop (mkF m 88 #[.val (.long q0), .second, .val (.long q1), .second, .val (.ref b1), .val (.ref b5), .val (.long (own_m3 (own_m2 (own_m1 (q0 + (-7046029254386353131 : Int64)))))), .second, .val (.long (own_m3 (own_m2 (own_m1 ((q0 + (-7046029254386353131 : Int64)) + (-7046029254386353131 : Int64)))))), .second, .val (.long (own_m3 (own_m2 (own_m1 (((q0 + (-7046029254386353131 : Int64)) + (-7046029254386353131 : Int64)) + (-7046029254386353131 : Int64)))))), .second] [(.int (lcmpW (((q0 + (-7046029254386353131 : Int64)) + (-7046029254386353131 : Int64)) + (-7046029254386353131 : Int64)) (q0 + (-2691343689449507777 : Int64))))])) _
    refine XS.ifNo X29.here hx rfl (hb hby at_88) rfl ((if0 _ _).trans (teq ((lw_eq (((q0 + (-7046029254386353131 : Int64)) + (-7046029254386353131 : Int64)) + (-7046029254386353131 : Int64)) (q0 + (-2691343689449507777 : Int64))).mpr (own_s3 q0))).2) ?_
    show Steps p.tables e below (T29.setTop (mkF m 91 #[.val (.long q0), .second, .val (.long q1), .second, .val (.ref b1), .val (.ref b5), .val (.long (own_m3 (own_m2 (own_m1 (q0 + (-7046029254386353131 : Int64)))))), .second, .val (.long (own_m3 (own_m2 (own_m1 ((q0 + (-7046029254386353131 : Int64)) + (-7046029254386353131 : Int64)))))), .second, .val (.long (own_m3 (own_m2 (own_m1 (((q0 + (-7046029254386353131 : Int64)) + (-7046029254386353131 : Int64)) + (-7046029254386353131 : Int64)))))), .second] [])) _
    refine XS.iconst X29.here hx rfl (hb hby at_91) ?_
    show Steps p.tables e below (T29.setTop (mkF m 92 #[.val (.long q0), .second, .val (.long q1), .second, .val (.ref b1), .val (.ref b5), .val (.long (own_m3 (own_m2 (own_m1 (q0 + (-7046029254386353131 : Int64)))))), .second, .val (.long (own_m3 (own_m2 (own_m1 ((q0 + (-7046029254386353131 : Int64)) + (-7046029254386353131 : Int64)))))), .second, .val (.long (own_m3 (own_m2 (own_m1 (((q0 + (-7046029254386353131 : Int64)) + (-7046029254386353131 : Int64)) + (-7046029254386353131 : Int64)))))), .second] [(.int (1 : Int32))])) _
    refine XS.goto X29.here hx rfl (pc0 := 92) (pc' := 96) rfl (hb hby at_92) (by decide) (by decide) ?_
    show Steps p.tables e below (T29.setTop (mkF m 96 #[.val (.long q0), .second, .val (.long q1), .second, .val (.ref b1), .val (.ref b5), .val (.long (own_m3 (own_m2 (own_m1 (q0 + (-7046029254386353131 : Int64)))))), .second, .val (.long (own_m3 (own_m2 (own_m1 ((q0 + (-7046029254386353131 : Int64)) + (-7046029254386353131 : Int64)))))), .second, .val (.long (own_m3 (own_m2 (own_m1 (((q0 + (-7046029254386353131 : Int64)) + (-7046029254386353131 : Int64)) + (-7046029254386353131 : Int64)))))), .second] [(.int (1 : Int32))])) _
    exact retN X29 hx (t := .boolean) Bd.returns (by simp) (hb hby at_96) hr
  · show Q0 Z q0 q1 h0 n0 _ T29.heap _
    rw [e29]
    exact ⟨rfl, N29⟩
set_option maxRecDepth 65536 in
set_option maxHeartbeats 40000000 in
theorem comes_1 {Post : Tables → Env → Array Value → State → Outcome → State → Prop} (hpost : ∀ tb e args s v u, (limb_1_1.after args s (.returned v) u = true ∧ limb_1_2.after args s (.returned v) u = true ∧ True) → FrameEnd s (.returned v) u (Jvm.fieldLocs frame_1_writes args s ++ Jvm.arrayLocs frame_1_arrays args s ++ Jvm.staticLocs frame_1_statics s) 16 128 → Post tb e args s (.returned v) u) :
    ArmFor flags0 classFile x code maxLocals ret World_1 tables_1 room_1 Calls_1 rest_1 Pre_1 Post := by
  intro l hfl _ _ p e ha hc hk s m args below hf hA hF happ hP
  obtain ⟨hcalls, hrest, hpre⟩ := hP
  obtain ⟨-, -, -, hnamed, -, -, -, hat⟩ := (Spec.applies_iff hf).mp happ
  obtain ⟨hg, hn⟩ := and_e (Cond.before_iff.mp (show (Jvm.Cond.and given_1 narrow_1).before args s = true from hpre))
  obtain ⟨hga, hgb⟩ := and_e hg
  obtain ⟨hgba, hgbb⟩ := and_e hgb
  obtain ⟨w0, w1, rfl⟩ : ∃ w0 w1 : Value, args = #[w0, w1] := by
    have hs : args.size = 2 := by simpa [Cond.value, given_1] using hga
    obtain ⟨L⟩ := args
    match L, hs with
    | [w0, w1], _ => exact ⟨w0, w1, rfl⟩
  have hw := fun d (hd : d ∈ tables_1) => atoms_spec (ws := Jvm.Cond.code x code maxLocals ret :: tables_1) hat d (List.mem_cons_of_mem _ hd)
  have hfit : Fit s := fun {y c} hc i hi => by
    obtain ⟨ha, rfl⟩ := Array.getElem?_eq_some_iff.mp hc
    have q := List.all_eq_true.mp ((Array.all_eq_true_iff_forall_mem.mp hF) _ (Array.getElem_mem ha)) i (List.mem_range.mpr hi)
    simpa [Array.getElem?_eq_getElem hi] using q
  obtain ⟨i0, ei0⟩ := isL_v hgba
  obtain rfl : w0 = (.long i0) := Option.some.inj ei0
  obtain ⟨i1, ei1⟩ := isL_v hgbb
  obtain rfl : w1 = (.long i1) := Option.some.inj ei1
  obtain ⟨n, o, h1, h2, h3, _, L, rfl, ⟨rfl, N⟩, hq⟩ := rm0 l s _ hw tables_1 i0 i1  s.heap s.heap.size (Nat.le_refl _)  p e ha hc hk s m _ below hf ((Spec.applies_iff_loose hf).mp happ).1 ⟨rfl, State.Warmed39.refl s, rfl⟩ trivial
  refine ⟨n, _, h1, h2, h3, hpost _ _ _ _ _ _ ⟨Cond.after_iff.mpr rfl, Cond.after_iff.mpr (eq_i res_at (Term.int_eval (1)) rfl), trivial⟩ ⟨hq.1, hq.2.1, (hq.2.2.sift fun y hy => Or.inr (N y hy)).mono (by decide) (by decide)⟩⟩
theorem main_1_1 : Claimed_1_1 := comes_1 fun _ _ _ _ _ _ h hF => ⟨h.1, hF⟩
theorem main_1_2 : Claimed_1_2 := comes_1 fun _ _ _ _ _ _ h hF => ⟨h.2.1, hF⟩
end Jvm.Pilot.@@N@@
namespace Jvm.Pilot.@@N@@
open Jvm Jvm.ClassFile Sem Op Lib Jvm.Free Jvm.Stand Jvm.Pilot.@@N@@.Jvm.D
/-! MADE BY PROGRAM (witnessworld.py) out of the Statement's table words and the real class files: 11 classes; the members and pool entries that the words name. The judged class is class 1, her method 2. -/
namespace start1
open Jvm.ClassFile
def u (s : String) : CpInfo := .utf8 (stringToUtf16 s)
/-- a pool by its gaps: so many unusable entries, then the entry; so many at the end -/
def gap : Nat → List CpInfo → List CpInfo
  | 0, r => r
  | n + 1, r => .unusable :: gap n r
def poolList (es : List (Nat × CpInfo)) (last : Nat) : List CpInfo := es.foldr (fun e r => gap e.1 (e.2 :: r)) (gap last [])
def pool (es : List (Nat × CpInfo)) (last : Nat) : Array CpInfo := ⟨poolList es last⟩
def fileOf (pool : Array CpInfo) (this : Nat) (attrs : Array Attribute := #[]) (ms : Array MethodInfo := #[]) (fl : Nat := 33) (sup : Nat := 0) (ifs : Array Nat := #[]) (fds : Array FieldInfo := #[]) : ClassFile where
  minorVersion := 0
  majorVersion := 65
  constantPool := pool
  accessFlags := fl
  thisClass := this
  superClass := sup
  interfaces := ifs
  fields := fds
  methods := ms
  attributes := attrs
def plain (name : String) (sup : Option ClassId) : Class where
  name := name
  kind := .ordinary
  loader := none
  accessFlags := 33
  super := sup
  interfaces := #[]
  cf := none
  fields := #[]
  methods := #[]
  instanceTypes := #[]
  staticTypes := #[]
  resolved := #[]
  callSites := []
  init := .initialized
  statics := none
  mirror := none

def pool0 : Array CpInfo := pool [(5, u "<init>"), (0, u "()V"), (1, .class_ 10), (1, u "java/lang/Object")] 113

def k0c0 : Code := { maxStack := 0, maxLocals := 1, code := object_method_1_code, exceptionTable := #[], attributes := #[] }
def k0m0 : Method := { name := "<init>", desc := "()V", sig := { parameters := [], returnType := none }, accessFlags := 1, code := some k0c0 }
/-- java/lang/Object -/
def k0 : Class := { plain "java/lang/Object" none with
  accessFlags := 33
  interfaces := #[]
  cf := some (fileOf pool0 8 #[] #[{ accessFlags := 1, nameIndex := 5, descriptorIndex := 6, attributes := #[] }] 33 0 #[] #[])
  fields := #[]
  methods := #[k0m0]
  instanceTypes := #[]
  staticTypes := #[]
  resolved := Array.replicate 124 none
  statics := none }

def pool1 : Array CpInfo := pool [(2, .class_ 4), (1, u "java/lang/Object"), (0, u "<init>"), (0, u "()V"), (0, .class_ 8), (0, u "com/example/unanimity/unanimity/cli/DrawsNextLongPinLaw"), (0, .long 3573116690164977347), (1, .long 10871156337175269513), (1, .class_ 14), (0, u "com/example/unanimity/unanimity/cli/Tpcb"), (0, .long 65535), (1, .methodref 13 18), (0, .nameAndType 5 19), (0, u "(J)V"), (0, .class_ 21), (0, u "com/example/unanimity/unanimity/cli/Draws"), (0, .methodref 20 23), (0, .nameAndType 5 24), (0, u "(Lcom/example/unanimity/unanimity/cli/Tpcb;J)V"), (0, .methodref 20 26), (0, .nameAndType 27 28), (0, u "nextLong"), (0, u "()J"), (0, .methodref 7 30), (0, .nameAndType 31 32), (0, u "unmix"), (0, u "(J)J"), (0, .long 11400714819323198485), (1, .long 4354685564936845354), (1, .long 15755400384260043839), (1, u "GAMMA"), (0, u "J"), (1, u "INV_FIRST"), (0, u "INV_SECOND"), (2, u "law"), (0, u "(JJ)Z")] 3

def k1m0 : Method := { name := "<init>", desc := "()V", sig := { parameters := [], returnType := none }, accessFlags := 1, code := none }
def k1c1 : Code := { maxStack := 5, maxLocals := 4, code := method_2_code, exceptionTable := #[], attributes := #[] }
def k1m1 : Method := { name := "unmix", desc := "(J)J", sig := { parameters := [.long], returnType := some .long }, accessFlags := 10, code := some k1c1 }
def k1c2 : Code := { maxStack := 8, maxLocals := 12, code := code, exceptionTable := #[], attributes := #[] }
def k1m2 : Method := { name := "law", desc := "(JJ)Z", sig := { parameters := [.long, .long], returnType := some .boolean }, accessFlags := 9, code := some k1c2 }
/-- com/example/unanimity/unanimity/cli/DrawsNextLongPinLaw -/
def k1 : Class := { plain "com/example/unanimity/unanimity/cli/DrawsNextLongPinLaw" (some 0) with
  accessFlags := 49
  interfaces := #[]
  cf := some (fileOf pool1 7 #[] #[{ accessFlags := 1, nameIndex := 5, descriptorIndex := 6, attributes := #[] }, { accessFlags := 10, nameIndex := 31, descriptorIndex := 32, attributes := #[] }, { accessFlags := 9, nameIndex := 46, descriptorIndex := 47, attributes := #[] }] 49 2 #[] #[{ accessFlags := 26, nameIndex := 39, descriptorIndex := 40, attributes := #[] }, { accessFlags := 26, nameIndex := 42, descriptorIndex := 40, attributes := #[] }, { accessFlags := 26, nameIndex := 43, descriptorIndex := 40, attributes := #[] }])
  fields := #[{ name := "GAMMA", type := .long, accessFlags := 26, slot := 0, constantValue := 0 }, { name := "INV_FIRST", type := .long, accessFlags := 26, slot := 1, constantValue := 0 }, { name := "INV_SECOND", type := .long, accessFlags := 26, slot := 2, constantValue := 0 }]
  methods := #[k1m0, k1m1, k1m2]
  instanceTypes := #[]
  staticTypes := #[.long, .long, .long]
  resolved := Array.replicate 51 none
  statics := none }

def pool2 : Array CpInfo := pool [(1, .methodref 2 3), (0, .class_ 4), (0, .nameAndType 5 6), (0, u "java/lang/Object"), (0, u "<init>"), (0, u "()V"), (0, .class_ 8), (0, u "java/lang/Record")] 13

def k2c0 : Code := { maxStack := 1, maxLocals := 1, code := jdk_30_method_1_code, exceptionTable := #[], attributes := #[] }
def k2m0 : Method := { name := "<init>", desc := "()V", sig := { parameters := [], returnType := none }, accessFlags := 4, code := some k2c0 }
/-- java/lang/Record -/
def k2 : Class := { plain "java/lang/Record" (some 0) with
  accessFlags := 1057
  interfaces := #[]
  cf := some (fileOf pool2 7 #[] #[{ accessFlags := 4, nameIndex := 5, descriptorIndex := 6, attributes := #[] }] 1057 2 #[] #[])
  fields := #[]
  methods := #[k2m0]
  instanceTypes := #[]
  staticTypes := #[]
  resolved := Array.replicate 22 none
  statics := none }

def pool3 : Array CpInfo := pool [(3, .class_ 4), (0, u "com/example/unanimity/unanimity/cli/Tpcb"), (0, .methodref 6 7), (0, .class_ 8), (0, .nameAndType 9 10), (0, u "java/lang/Record"), (0, u "<init>"), (0, u "()V"), (0, .long 92233720368547), (10, .fieldref 3 23), (0, .nameAndType 24 25), (0, u "branches"), (0, u "J"), (16, u "ACCOUNT"), (0, u "Ljava/lang/String;"), (3, u "TELLER"), (2, u "BRANCH"), (2, u "HISTORY"), (2, u "ACCOUNTS_PER_BRANCH"), (0, u "TELLERS_PER_BRANCH"), (0, u "MAX_BRANCHES"), (0, u "(J)V")] 37

def k3c0 : Code := { maxStack := 4, maxLocals := 3, code := prog_23_method_1_code, exceptionTable := #[], attributes := #[] }
def k3m0 : Method := { name := "<init>", desc := "(J)V", sig := { parameters := [.long], returnType := none }, accessFlags := 0, code := some k3c0 }
/-- com/example/unanimity/unanimity/cli/Tpcb -/
def k3 : Class := { plain "com/example/unanimity/unanimity/cli/Tpcb" (some 2) with
  accessFlags := 48
  interfaces := #[]
  cf := some (fileOf pool3 3 #[] #[{ accessFlags := 0, nameIndex := 9, descriptorIndex := 59, attributes := #[] }] 48 6 #[] #[{ accessFlags := 18, nameIndex := 24, descriptorIndex := 25, attributes := #[] }, { accessFlags := 24, nameIndex := 42, descriptorIndex := 43, attributes := #[] }, { accessFlags := 24, nameIndex := 47, descriptorIndex := 43, attributes := #[] }, { accessFlags := 24, nameIndex := 50, descriptorIndex := 43, attributes := #[] }, { accessFlags := 24, nameIndex := 53, descriptorIndex := 43, attributes := #[] }, { accessFlags := 24, nameIndex := 56, descriptorIndex := 25, attributes := #[] }, { accessFlags := 24, nameIndex := 57, descriptorIndex := 25, attributes := #[] }, { accessFlags := 24, nameIndex := 58, descriptorIndex := 25, attributes := #[] }])
  fields := #[{ name := "branches", type := .long, accessFlags := 18, slot := 0, constantValue := 0 }, { name := "ACCOUNT", type := (.object "java/lang/String"), accessFlags := 24, slot := 0, constantValue := 0 }, { name := "TELLER", type := (.object "java/lang/String"), accessFlags := 24, slot := 1, constantValue := 0 }, { name := "BRANCH", type := (.object "java/lang/String"), accessFlags := 24, slot := 2, constantValue := 0 }, { name := "HISTORY", type := (.object "java/lang/String"), accessFlags := 24, slot := 3, constantValue := 0 }, { name := "ACCOUNTS_PER_BRANCH", type := .long, accessFlags := 24, slot := 4, constantValue := 0 }, { name := "TELLERS_PER_BRANCH", type := .long, accessFlags := 24, slot := 5, constantValue := 0 }, { name := "MAX_BRANCHES", type := .long, accessFlags := 24, slot := 6, constantValue := 0 }]
  methods := #[k3m0]
  instanceTypes := #[.long]
  staticTypes := #[(.object "java/lang/String"), (.object "java/lang/String"), (.object "java/lang/String"), (.object "java/lang/String"), .long, .long, .long]
  resolved := Array.replicate 97 none
  statics := none }

def pool4 : Array CpInfo := pool [(1, .methodref 2 3), (0, .class_ 4), (0, .nameAndType 5 6), (0, u "java/lang/Object"), (0, u "<init>"), (0, u "()V"), (0, .fieldref 8 9), (0, .class_ 10), (0, .nameAndType 11 12), (0, u "com/example/unanimity/unanimity/cli/Draws"), (0, u "data"), (0, u "Lcom/example/unanimity/unanimity/cli/Tpcb;"), (0, .fieldref 8 14), (0, .nameAndType 15 16), (0, u "state"), (0, u "J"), (2, u "(Lcom/example/unanimity/unanimity/cli/Tpcb;J)V"), (5, u "nextLong"), (0, u "()J"), (21, .class_ 49), (0, u "com/example/unanimity/unanimity/cli/Draws$Draw"), (16, .long 11400714819323198485), (1, .long 13787848793156543929), (1, .long 10723151780598845931), (1, u "MAX_DELTA"), (1, u "GAMMA"), (0, u "MIX_FIRST"), (0, u "MIX_SECOND")] 14

def k4c0 : Code := { maxStack := 3, maxLocals := 4, code := prog_6_method_1_code, exceptionTable := #[], attributes := #[] }
def k4m0 : Method := { name := "<init>", desc := "(Lcom/example/unanimity/unanimity/cli/Tpcb;J)V", sig := { parameters := [(.object "com/example/unanimity/unanimity/cli/Tpcb"), .long], returnType := none }, accessFlags := 0, code := some k4c0 }
def k4c1 : Code := { maxStack := 5, maxLocals := 3, code := prog_6_method_5_code, exceptionTable := #[], attributes := #[] }
def k4m1 : Method := { name := "nextLong", desc := "()J", sig := { parameters := [], returnType := some .long }, accessFlags := 0, code := some k4c1 }
/-- com/example/unanimity/unanimity/cli/Draws -/
def k4 : Class := { plain "com/example/unanimity/unanimity/cli/Draws" (some 0) with
  accessFlags := 48
  interfaces := #[]
  cf := some (fileOf pool4 8 #[.nestMembers #[48]] #[{ accessFlags := 0, nameIndex := 5, descriptorIndex := 19, attributes := #[] }, { accessFlags := 0, nameIndex := 25, descriptorIndex := 26, attributes := #[] }] 48 2 #[] #[{ accessFlags := 24, nameIndex := 72, descriptorIndex := 16, attributes := #[] }, { accessFlags := 26, nameIndex := 74, descriptorIndex := 16, attributes := #[] }, { accessFlags := 26, nameIndex := 75, descriptorIndex := 16, attributes := #[] }, { accessFlags := 26, nameIndex := 76, descriptorIndex := 16, attributes := #[] }, { accessFlags := 18, nameIndex := 11, descriptorIndex := 12, attributes := #[] }, { accessFlags := 2, nameIndex := 15, descriptorIndex := 16, attributes := #[] }])
  fields := #[{ name := "MAX_DELTA", type := .long, accessFlags := 24, slot := 0, constantValue := 0 }, { name := "GAMMA", type := .long, accessFlags := 26, slot := 1, constantValue := 0 }, { name := "MIX_FIRST", type := .long, accessFlags := 26, slot := 2, constantValue := 0 }, { name := "MIX_SECOND", type := .long, accessFlags := 26, slot := 3, constantValue := 0 }, { name := "data", type := (.object "com/example/unanimity/unanimity/cli/Tpcb"), accessFlags := 18, slot := 0, constantValue := 0 }, { name := "state", type := .long, accessFlags := 2, slot := 1, constantValue := 0 }]
  methods := #[k4m0, k4m1]
  instanceTypes := #[(.object "com/example/unanimity/unanimity/cli/Tpcb"), .long]
  staticTypes := #[.long, .long, .long, .long]
  resolved := Array.replicate 91 none
  statics := none }

def pool5 : Array CpInfo := pool [(1, u "java/lang/Cloneable"), (0, .class_ 1), (0, u "java/lang/Object"), (0, .class_ 3)] 3

/-- java/lang/Cloneable -/
def k5 : Class := { plain "java/lang/Cloneable" (some 0) with
  accessFlags := 1537
  interfaces := #[]
  cf := some (fileOf pool5 2 #[] #[] 1537 4 #[] #[])
  fields := #[]
  methods := #[]
  instanceTypes := #[]
  staticTypes := #[]
  resolved := Array.replicate 8 none
  statics := none }

def pool6 : Array CpInfo := pool [(1, u "java/io/Serializable"), (0, .class_ 1), (0, u "java/lang/Object"), (0, .class_ 3)] 3

/-- java/io/Serializable -/
def k6 : Class := { plain "java/io/Serializable" (some 0) with
  accessFlags := 1537
  interfaces := #[]
  cf := some (fileOf pool6 2 #[] #[] 1537 4 #[] #[])
  fields := #[]
  methods := #[]
  instanceTypes := #[]
  staticTypes := #[]
  resolved := Array.replicate 8 none
  statics := none }

/-- the primitive byte -/
def k7 : Class := { plain "byte" none with kind := .primitive 'B', accessFlags := 0x411 }
/-- [B -/
def k8 : Class := { plain "[B" (some 0) with kind := .array 7 .byte, interfaces := #[5, 6], accessFlags := 1041 }

/-- the primitive int -/
def k9 : Class := { plain "int" none with kind := .primitive 'I', accessFlags := 0x411 }
/-- [I -/
def k10 : Class := { plain "[I" (some 0) with kind := .array 9 .int, interfaces := #[5, 6], accessFlags := 1041 }

def heap : Heap := #[]
def classes : Array Class := #[k0, k1, k2, k3, k4, k5, k6, k7, k8, k9, k10]
def interned : List (Array UInt16 × Addr) := []
def slotsUsed : Nat := 0
def theMethod : MethodId := ⟨1, 2⟩
def args0 : Array Value := #[.long 5, .long 7]
def aboutOver (below : List Frame) : State where
  vm := { classes := classes, interned := interned.toArray }
  heap := heap
  slotsUsed := slotsUsed
  threads := #[{ frames := .invoking theMethod args0 :: below }]
def below0 : List Frame := [.native { method := ⟨0, 0⟩, args := #[] }]
def about1 : State := aboutOver below0
def p0 : Program := .bare "" "" ""
def e0 : Env := launch0.env 0 0 0
theorem w_frames : about1.frames = Frame.invoking theMethod args0 :: below0 := rfl
set_option maxRecDepth 65536 in
theorem w_args : argsFit about1.vm theMethod args0 = true := by decide +kernel
set_option maxRecDepth 65536 in
theorem w_heap : heapFits about1 = true := by decide +kernel
set_option maxRecDepth 65536 in
theorem w_runnable : about1.curStatus? = some .runnable := by decide +kernel
set_option maxRecDepth 65536 in
theorem w_alone : about1.alone = true := by decide +kernel
set_option maxRecDepth 65536 in
theorem w_named : about1.methodNamed? x = some theMethod := by decide +kernel
set_option maxRecDepth 65536 in
theorem w_hears : about1.hears theMethod below0 = true := by decide +kernel
set_option maxRecDepth 65536 in
theorem w_ripe : about1.ripe theMethod args0 below0 = true := by decide +kernel
theorem w_running : about1.status = .running := rfl
set_option maxRecDepth 65536 in
theorem w_room : about1.hasRoom e0.platform room_1 = true :=
  launch0.hasRoom_least _ room_1 (by decide +kernel) (by decide +kernel) (by decide +kernel) (by decide +kernel) (by decide +kernel) (by decide +kernel)
theorem allAtoms_all (ts : List Jvm.Cond) (a : Array Jvm.Value) (st : Jvm.State) : (allAtoms ts).before a st = ts.all (fun c => c.before a st) := by
  induction ts with
  | nil => rfl
  | cons c t ih =>
    show (Jvm.Cond.and c (allAtoms t)).before a st = _
    rw [Jvm.Cond.before_and, ih, List.all_cons]
def words1 : List Jvm.Cond := Jvm.Cond.code x code maxLocals ret :: tables_1
/-- a 'code' word, met by the world's own term for the bytes: nothing is compared byte by byte -/
theorem code_word {y : MethodName} {bytes : ByteArray} {mx : Nat} {rt : Option FieldType} {a : Array Value} {s : State} {m : MethodId} {meth : Method} {c : Code} (h1 : s.methodNamed? y = some m) (h2 : s.vm.method? m = some meth) (h3 : meth.code = some c) (h4 : c.code = bytes)
    (h5 : (c.maxLocals == mx && c.exceptionTable.isEmpty && decide (c.maxStack ≤ mostOperands) && decide (meth.sig.returnType = rt) && !meth.locks && decide (parseMethodDescriptor y.desc = some meth.sig)) = true) : (Jvm.Cond.code y bytes mx rt).before a s = true := by
  simp only [Bool.and_eq_true, beq_iff_eq, Bool.not_eq_true', decide_eq_true_eq] at h5
  obtain ⟨⟨⟨⟨⟨g1, g2⟩, g3⟩, g4⟩, g5⟩, g6⟩ := h5
  simp [Cond.before, Cond.holds, Cond.value, h1, h2, h3, h4, g1, g2, g3, g4, g5, g6]
def isCode : Jvm.Cond → Bool
  | .code _ _ _ _ => true
  | _ => false
theorem all_split {L : List Jvm.Cond} {P : Jvm.Cond → Bool} (h1 : L.all (fun c => isCode c || P c) = true) (h2 : ∀ c ∈ L.filter isCode, P c = true) : L.all P = true := by
  refine List.all_eq_true.mpr fun c hc => ?_
  have h := List.all_eq_true.mp h1 c hc
  rcases Bool.eq_false_or_eq_true (isCode c) with hi | hi
  · exact h2 c (List.mem_filter.mpr ⟨hc, hi⟩)
  · simpa [hi] using h
set_option maxRecDepth 65536 in
theorem w_c0 : (Jvm.Cond.code x code maxLocals ret).before args0 about1 = true := code_word (m := ⟨1, 2⟩) (meth := k1m2) (c := k1c2) (by decide +kernel) rfl rfl rfl (by decide +kernel)
set_option maxRecDepth 65536 in
theorem w_c1 : (Jvm.Cond.code ({ cls := "com/example/unanimity/unanimity/cli/Tpcb", name := "<init>", desc := "(J)V" } : Jvm.MethodName) prog_23_method_1_code (3 : Nat) (Option.none : Option Jvm.ClassFile.FieldType)).before args0 about1 = true := code_word (m := ⟨3, 0⟩) (meth := k3m0) (c := k3c0) (by decide +kernel) rfl rfl rfl (by decide +kernel)
set_option maxRecDepth 65536 in
theorem w_c2 : (Jvm.Cond.code ({ cls := "java/lang/Record", name := "<init>", desc := "()V" } : Jvm.MethodName) jdk_30_method_1_code (1 : Nat) (Option.none : Option Jvm.ClassFile.FieldType)).before args0 about1 = true := code_word (m := ⟨2, 0⟩) (meth := k2m0) (c := k2c0) (by decide +kernel) rfl rfl rfl (by decide +kernel)
set_option maxRecDepth 65536 in
theorem w_c3 : (Jvm.Cond.code ({ cls := "java/lang/Object", name := "<init>", desc := "()V" } : Jvm.MethodName) object_method_1_code (1 : Nat) (Option.none : Option Jvm.ClassFile.FieldType)).before args0 about1 = true := code_word (m := ⟨0, 0⟩) (meth := k0m0) (c := k0c0) (by decide +kernel) rfl rfl rfl (by decide +kernel)
set_option maxRecDepth 65536 in
theorem w_c4 : (Jvm.Cond.code ({ cls := "com/example/unanimity/unanimity/cli/Draws", name := "<init>", desc := "(Lcom/example/unanimity/unanimity/cli/Tpcb;J)V" } : Jvm.MethodName) prog_6_method_1_code (4 : Nat) (Option.none : Option Jvm.ClassFile.FieldType)).before args0 about1 = true := code_word (m := ⟨4, 0⟩) (meth := k4m0) (c := k4c0) (by decide +kernel) rfl rfl rfl (by decide +kernel)
set_option maxRecDepth 65536 in
theorem w_c5 : (Jvm.Cond.code ({ cls := "com/example/unanimity/unanimity/cli/Draws", name := "nextLong", desc := "()J" } : Jvm.MethodName) prog_6_method_5_code (3 : Nat) (Option.some Jvm.ClassFile.FieldType.long)).before args0 about1 = true := code_word (m := ⟨4, 1⟩) (meth := k4m1) (c := k4c1) (by decide +kernel) rfl rfl rfl (by decide +kernel)
set_option maxRecDepth 65536 in
theorem w_c6 : (Jvm.Cond.code ({ cls := "com/example/unanimity/unanimity/cli/DrawsNextLongPinLaw", name := "unmix", desc := "(J)J" } : Jvm.MethodName) method_2_code (4 : Nat) (Option.some Jvm.ClassFile.FieldType.long)).before args0 about1 = true := code_word (m := ⟨1, 1⟩) (meth := k1m1) (c := k1c1) (by decide +kernel) rfl rfl rfl (by decide +kernel)
def codes1 : List Jvm.Cond := [Jvm.Cond.code x code maxLocals ret, Jvm.Cond.code ({ cls := "com/example/unanimity/unanimity/cli/Tpcb", name := "<init>", desc := "(J)V" } : Jvm.MethodName) prog_23_method_1_code (3 : Nat) (Option.none : Option Jvm.ClassFile.FieldType), Jvm.Cond.code ({ cls := "java/lang/Record", name := "<init>", desc := "()V" } : Jvm.MethodName) jdk_30_method_1_code (1 : Nat) (Option.none : Option Jvm.ClassFile.FieldType), Jvm.Cond.code ({ cls := "java/lang/Object", name := "<init>", desc := "()V" } : Jvm.MethodName) object_method_1_code (1 : Nat) (Option.none : Option Jvm.ClassFile.FieldType), Jvm.Cond.code ({ cls := "com/example/unanimity/unanimity/cli/Draws", name := "<init>", desc := "(Lcom/example/unanimity/unanimity/cli/Tpcb;J)V" } : Jvm.MethodName) prog_6_method_1_code (4 : Nat) (Option.none : Option Jvm.ClassFile.FieldType), Jvm.Cond.code ({ cls := "com/example/unanimity/unanimity/cli/Draws", name := "nextLong", desc := "()J" } : Jvm.MethodName) prog_6_method_5_code (3 : Nat) (Option.some Jvm.ClassFile.FieldType.long), Jvm.Cond.code ({ cls := "com/example/unanimity/unanimity/cli/DrawsNextLongPinLaw", name := "unmix", desc := "(J)J" } : Jvm.MethodName) method_2_code (4 : Nat) (Option.some Jvm.ClassFile.FieldType.long)]
set_option maxRecDepth 65536 in
theorem codes_eq : words1.filter isCode = codes1 := rfl
theorem w_codes : ∀ c ∈ words1.filter isCode, c.before args0 about1 = true := by
  rw [codes_eq]
  intro c hc
  simp only [codes1, List.mem_cons, List.not_mem_nil, or_false] at hc
  rcases hc with rfl | rfl | rfl | rfl | rfl | rfl | rfl
  · exact w_c0
  · exact w_c1
  · exact w_c2
  · exact w_c3
  · exact w_c4
  · exact w_c5
  · exact w_c6
set_option maxRecDepth 65536 in
theorem w_t1 : (words1.take 24).all (fun c => isCode c || c.before args0 about1) = true := by decide +kernel
set_option maxRecDepth 65536 in
theorem w_t2 : (words1.drop 24).all (fun c => isCode c || c.before args0 about1) = true := by decide +kernel
theorem w_tables : (allAtoms (Jvm.Cond.code x code maxLocals ret :: tables_1)).before args0 about1 = true := by
  rw [allAtoms_all]
  show words1.all (fun c => c.before args0 about1) = true
  refine all_split ?_ w_codes
  rw [← List.take_append_drop 24 words1, List.all_append, w_t1, w_t2]
  rfl
set_option maxRecDepth 65536 in
theorem w_case : (Jvm.Cond.and given_1 narrow_1).before args0 about1 = true := by decide +kernel
theorem w_applies : (headSpec (Jvm.Cond.code x code maxLocals ret :: tables_1) room_1).applies x e0.platform about1 = true :=
  (Spec.applies_iff w_frames).mpr ⟨w_running, w_runnable, w_alone, w_named, w_hears, w_ripe, w_room, w_tables⟩
theorem atStart : AtStart classFile x code maxLocals ret World_1 tables_1 room_1 Calls_1 rest_1 Pre_1 launch0 p0 e0 about1 theMethod args0 below0 :=
  ⟨lists_1, trivial, launch0.admits_env _ _ _, launch0.least_env, fairChoices_fair.cas, fairChoices_fair.clock, w_frames, w_args, w_heap, w_applies, trivial, trivial, w_case⟩
end start1
theorem witness_1 : WitnessClaimed_1 := ⟨start1.p0, start1.e0, start1.about1, start1.theMethod, start1.args0, start1.below0, start1.atStart⟩
end Jvm.Pilot.@@N@@
